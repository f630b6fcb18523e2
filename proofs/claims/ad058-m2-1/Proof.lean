import JvmDerived
import JvmDerived.Pilot.@@N@@Statement
import JvmDerived.Pilot.@@N@@Code
set_option linter.unusedVariables false
set_option linter.unusedSimpArgs false
namespace Jvm.RoadKit
open Sem ClassFile Op Lib Jvm.Stand Jvm.Free Jvm.LawKit
section New
variable {p : Program} {l : Launch} {e : Env} {R : Room} {s : State} {m : MethodId} {args : Array Value} {below : List Frame} {meth : Method} {c : Code} {T : State} {locs : List Loc} {cells slots : Nat}
theorem retI (X : Stand p l e R s m args below meth c T locs cells slots) (hx : p.tables.exec = Jvm.exec) {pc : Nat} {Ls : Array Slot} {z : Int32} {rest : List Value} (hret : meth.sig.returnType = some .int) (hd : decode c.code pc = .ok (.ireturn, 1)) {fs : List Frame}
    (hl : ∀ (f : JFrame) (acts : List Action), f.method = m → f.locked = none → f.entered = [] → (doReturn e (T.setTop f) acts (some (.int z))).1 = T.setFrames fs) : Steps p.tables e below (T.setTop (mkF m pc Ls (.int z :: rest))) (T.setFrames fs) := by
  have hm' : T.vm.method? m = some meth := X.method'
  have hn : narrow .int (.int z) = .int z := rfl
  show Steps p.tables e below (T.setTop { method := m, pc := pc, locals := Ls, stack := _ :: rest, locked := none }) _
  jvm_step X.here [X.here.top, hx, hd, hm', hret, hn]
  first | (intro acts; rw [hl _ acts rfl rfl rfl]) | rw [hl _ _ rfl rfl rfl]
  exact Steps.refl _
theorem own_retR (X : Stand p l e R s m args below meth c T locs cells slots) (hx : p.tables.exec = Jvm.exec) {pc : Nat} {Ls : Array Slot} {w : Value} {t : FieldType} {rest : List Value} (hret : meth.sig.returnType = some t) (ht : t.isReference = true) (hw : w.isRef = true) (hd : decode c.code pc = .ok (.areturn, 1)) {fs : List Frame}
    (hl : ∀ (f : JFrame) (acts : List Action), f.method = m → f.locked = none → f.entered = [] → (doReturn e (T.setTop f) acts (some w)).1 = T.setFrames fs) : Steps p.tables e below (T.setTop (mkF m pc Ls (w :: rest))) (T.setFrames fs) :=
  retOut X hx hret (by rcases ref_cases hw with rfl | ⟨z, rfl⟩ <;> cases t <;> first | rfl | (cases ht; done)) (Or.inr (Or.inr (Or.inr (Or.inr ⟨rfl, ht, hw⟩)))) hd hl
theorem own_retJ (X : Stand p l e R s m args below meth c T locs cells slots) (hx : p.tables.exec = Jvm.exec) {pc : Nat} {Ls : Array Slot} {z : Int64} {rest : List Value} (hret : meth.sig.returnType = some .long) (hd : decode c.code pc = .ok (.lreturn, 1)) {fs : List Frame}
    (hl : ∀ (f : JFrame) (acts : List Action), f.method = m → f.locked = none → f.entered = [] → (doReturn e (T.setTop f) acts (some (.long z))).1 = T.setFrames fs) : Steps p.tables e below (T.setTop (mkF m pc Ls (.long z :: rest))) (T.setFrames fs) :=
  retOut X hx hret rfl (Or.inr (Or.inl ⟨rfl, rfl, z, rfl⟩)) hd hl
end New
theorem own_eqv {args : Array Value} {first s : State} {o : Option Outcome} {idx : List Nat} {a b : Term} {v : Value} (h : (Jvm.Cond.eq a b).value args first o s idx = some true) (hb : b.eval args first o idx s = some v) (hk : (match v with | .int _ => true | .ref _ => true | .long _ => true | _ => false) = true := by rfl) : a.eval args first o idx s = some v := by
  simp only [Cond.value, hb] at h
  cases ha : a.eval args first o idx s with
  | none => simp [ha] at h
  | some x => cases x <;> cases v <;> simp_all
theorem own_selP {Z s : State} {a0 args : Array Value} {y : MethodName} {n : Nat} (hZ : Z.Warmed39 s.vm) (wi : (Cond.instantiable y.cls n).before a0 Z = true) (wp : (Cond.privateMethod y).before a0 Z = true) (wm : (Cond.instanceMethod y).before a0 Z = true) (hy : y.cls ≠ "java/lang/invoke/MethodHandle" ∧ y.cls ≠ "java/lang/invoke/VarHandle") : (Cond.selects y.cls y y).before args s = true := by
  have wi' : (Cond.instantiable y.cls n).before args s = true := mvT hZ wi
  have wm' : (Cond.instanceMethod y).before args s = true := mvT hZ wm
  obtain ⟨c, k, h1, h2, -, h4, -⟩ := Cond.instantiable_spec wi'
  simp only [Bool.or_eq_false_iff] at h4
  exact selects_self_of_private h1 h2 h4.1 (Cond.privateMethod_at (mvP hZ wp (args := #[]))) wm' hy
theorem own_selQ {Z s : State} {a0 args : Array Value} {y : MethodName} {y' : MethodName} {n' d' : String} (hZ : Z.Warmed39 s.vm) (wi : (Cond.selects y.cls y' ⟨y.cls, n', d'⟩).before a0 Z = true) (wp : (Cond.privateMethod y).before a0 Z = true) (wm : (Cond.instanceMethod y).before a0 Z = true) (hy : y.cls ≠ "java/lang/invoke/MethodHandle" ∧ y.cls ≠ "java/lang/invoke/VarHandle") : (Cond.selects y.cls y y).before args s = true := by
  have wi' : (Cond.selects y.cls y' ⟨y.cls, n', d'⟩).before args s = true := mvT hZ wi
  have wm' : (Cond.instanceMethod y).before args s = true := mvT hZ wm
  obtain ⟨c2, r2, m2, -, -, q3, -, kP, hkP, hkPi⟩ := Cond.selects_spec wi'
  have hc := findClass_of_methodNamed q3
  exact selects_self_of_private (c := m2.cls) hc hkP hkPi (Cond.privateMethod_at (mvP hZ wp (args := #[]))) wm' hy
theorem own_len {args : Array Value} {s : State} {t : Term} {a : Addr} {cl : Cell} {ty : FieldType} {z : Int32} (ht : t.eval args s none [] s = some (.ref a)) (A : Arr s s.heap a cl ty) (h : (Term.length t).eval args s none [] s = some (.int z)) : cl.slots.size < 2 ^ 31 ∧ cl.slots.size.toInt32 = z := by
  have e := A.fin (Vm.Alike.refl _)
  simp only [Term.eval, ht, e, Option.bind_eq_bind, Option.bind_some] at h
  split at h <;> simp_all
end Jvm.RoadKit
namespace Jvm.Pilot.@@N@@
open Jvm Jvm.ClassFile Sem Op Lib Jvm.Free Jvm.Stand Jvm.LawKit Jvm.RoadKit Bundle Jvm.Pilot.@@N@@.Jvm.D
theorem tw {Z : State} {a0 : Array Value} (hw : ∀ d ∈ tables_1, d.before a0 Z = true) (i : Nat) {d : Jvm.Cond} (h : tables_1[i]? = some d) : d.before a0 Z = true := hw d (List.mem_of_getElem? h)
abbrev MF (l : Launch) (Z : State) (y : MethodName) (cd : Jvm.Cond) (ws : List Jvm.Cond) (rm : Room) (A : Array Value) (h0 : Heap) (Q : Option Value → Heap → List Loc → Prop) : Prop := MetFree l y (head1 (cd :: ws) rm) (fun a U => a = A ∧ Z.Warmed39 U.vm ∧ U.heap = h0) (fun _ _ _ _ _ => True) (fun _ U o U' => ∃ v L, o = .returned v ∧ Q v U'.heap L ∧ FrameEnd U o U' L rm.cells rm.slots)
def Fin (p : Program) (e : Env) (below : List Frame) (s : State) (n0 : Nat) (S0 : State) : Prop := ∃ s₂ o, Steps p.tables e below S0 s₂ ∧ s₂.status = .running ∧ Ended s₂ below o ∧ ∃ v L, o = .returned v ∧ (v = some (.int (1 : Int32)) ∧ Fr n0 L) ∧ FrameEnd s o s₂ L room_1.cells room_1.slots
theorem Fin.pre {p : Program} {e : Env} {below : List Frame} {s S0 S1 : State} {n0 : Nat} (k : ∀ t, Steps p.tables e below S1 t → Steps p.tables e below S0 t) (h : Fin p e below s n0 S1) : Fin p e below s n0 S0 := by
  obtain ⟨u, o, h1, h2⟩ := h; exact ⟨u, o, k _ h1, h2⟩
abbrev SF (p : Program) (e : Env) (below : List Frame) (T : State) (g : JFrame) (t : State) : Prop := Steps p.tables e below (T.setTop g) t
abbrev HW (Z : State) (a0 : Array Value) : Prop := ∀ d ∈ tables_1, d.before a0 Z = true
theorem own_nn (a : Int32) : ¬ ((a &&& (2147483647 : Int32)) < (0 : Int32)) := by
  have h1 := (c_and a (2147483647 : Int32)) (by decide)
  rw [Int32.lt_iff_toInt_lt]
  have e : (0 : Int32).toInt = 0 := rfl
  omega
theorem own_nw (a : Int32) : ¬ (((a &&& (2147483647 : Int32)) >>> ((6 : Int32) &&& 31)) < (0 : Int32)) := by
  have h1 := (c_and a (2147483647 : Int32)) (by decide)
  have h2 := c_ishr (a &&& (2147483647 : Int32)) (6 : Int32) 6 (by decide)
  rw [Int32.lt_iff_toInt_lt, h2]
  have e : (0 : Int32).toInt = 0 := rfl
  rw [e]
  have := Int.ediv_nonneg h1.1 (show (0 : Int) ≤ (2 ^ 6 : Nat) by decide)
  omega
theorem d1_0 : decode prog_10_method_1_code 0 = .ok (.aload_n 0, 1) := by decide +kernel
theorem d1_1 : decode prog_10_method_1_code 1 = .ok (.invokespecial 1, 3) := by decide +kernel
theorem d1_4 : decode prog_10_method_1_code 4 = .ok (.aload_n 0, 1) := by decide +kernel
theorem d1_5 : decode prog_10_method_1_code 5 = .ok (.new 7, 3) := by decide +kernel
theorem d1_8 : decode prog_10_method_1_code 8 = .ok (.dup, 1) := by decide +kernel
theorem d1_9 : decode prog_10_method_1_code 9 = .ok (.invokespecial 9, 3) := by decide +kernel
theorem d3_0 : decode jdk_38_method_2_code 0 = .ok (.aload_n 0, 1) := by decide +kernel
theorem d3_1 : decode jdk_38_method_2_code 1 = .ok (.invokespecial 1, 3) := by decide +kernel
theorem d4_0 : decode jdk_39_method_1_code 0 = .ok (.aload_n 0, 1) := by decide +kernel
theorem d4_1 : decode jdk_39_method_1_code 1 = .ok (.invokespecial 1, 3) := by decide +kernel
theorem d5_0 : decode jdk_22_method_1_code 0 = .ok (.aload_n 0, 1) := by decide +kernel
theorem d5_1 : decode jdk_22_method_1_code 1 = .ok (.invokespecial 1, 3) := by decide +kernel
theorem d5_4 : decode jdk_22_method_1_code 4 = .ok (.return_, 1) := by decide +kernel
theorem pn_0 : plainName "java/util/AbstractCollection" = true := by first | (simp [plainName, overriddenIn]; done) | decide +kernel
theorem ef_0 (m : MethodId) (x0 : Addr) : entryFrame m #[(.ref x0)] 1 = mkF m 0 #[.val (.ref x0)] [] := by first | (simp [entryFrame, mkF, argsToLocals, Value.category]; done) | rfl
-- AbstractCollection.init 
def Q5_1 (Z : State) (u1 : Addr) (h0 : Heap) (n0 : Nat) (v : Option Value) (h : Heap) (L : List Loc) : Prop := v = none ∧ Fr n0 L ∧ h = h0
set_option maxRecDepth 65536 in
set_option maxHeartbeats 40000000 in
theorem rm5_1 (l : Launch) (Z : State) (a0 : Array Value) (hw : HW Z a0) (ws : List Jvm.Cond) (u1 : Addr) (h0 : Heap) (n0 : Nat) (Z0 : n0 ≤ h0.size) :
    MF l Z (⟨"java/util/AbstractCollection", "<init>", "()V"⟩ : MethodName) (Jvm.Cond.code (⟨"java/util/AbstractCollection", "<init>", "()V"⟩ : MethodName) jdk_22_method_1_code 1 none) ws ({ frames := 1, cells := 0, slots := 0, locals := 12 } : Room) #[(.ref u1)] h0 (Q5_1 Z u1 h0 n0) := by
  refine MetFree.of_bodySF (plainFor_of_name pn_0) hisR ?_
  intro p e s m args below meth c s₁ Bd hml0 hP hK
  obtain ⟨rfl, hZ, hh⟩ := hP
  have hx := Bd.exec
  have hby := Bd.bytes
  have hml : c.maxLocals = 1 := hml0
  have hown : s.vm.findClass "java/util/AbstractCollection" = some m.cls := findClass_of_methodNamed Bd.named
  have hnm := (name_of_methodNamed Bd.named Bd.method).1
  have X0 : Stand p l e ({ frames := 1, cells := 0, slots := 0, locals := 12 } : Room) s m #[(.ref u1)] below meth c s₁ [] 0 0 := Stand.of_body Bd
  have e0 : s₁.heap = h0 := by rw [← hh, Bd.state]; rfl
  have N0 := Fr.nil n0
  have pre0 : ∀ t, SF p e below s₁ (mkF m 0 #[rv u1] []) t → SF p e below s₁ (entryFrame m #[(.ref u1)] 1) t := fun t k => castTop (ef_0 m u1) k
  obtain ⟨T1, X1, e1, st1⟩ := initO X0 hx hZ hown (tw hw 28 rfl) (tw hw 8 rfl) (tw hw 9 rfl) e0 (g := (mkF m 1 #[rv u1] [(.ref u1)])) rfl (by rw [hml]; rfl) rfl (hb hby d5_1) (by decide) (W := 0) (by show 2 * 0 + _ ≤ _; exact Nat.le_of_eq rfl) (by decide)
  obtain ⟨fs, hr, hrun, hended, hW, hsame⟩ := X1.leave (v := none) (fun _ => rfl)
  refine ⟨_, _, pre0 _ ?_, hrun, hended, _, _, rfl, ?_, ⟨_, rfl⟩, hW, hsame.mono (by decide) (by decide)⟩
  · show SF p e below s₁ (mkF m 0 #[rv u1] []) _
    refine XS.aloadN X0.here hx rfl (hb hby d5_0) rfl rfl ?_
    show SF p e below s₁ (mkF m 1 #[rv u1] [(.ref u1)]) _
    refine st1 _ ?_
    show SF p e below T1 (mkF m 4 #[rv u1] []) _
    exact X1.returnOut hx Bd.returns (hb hby d5_4) hr
  · show Q5_1 Z u1 h0 n0 _ T1.heap _
    rw [e1]
    exact ⟨rfl, N0, rfl⟩
theorem pd_0 : parseMethodDescriptor "()V" = some ⟨[], none⟩ := by decide +kernel
theorem d4_4 : decode jdk_39_method_1_code 4 = .ok (.aload_n 0, 1) := by decide +kernel
theorem d4_5 : decode jdk_39_method_1_code 5 = .ok (.iconst 0, 1) := by decide +kernel
theorem d4_6 : decode jdk_39_method_1_code 6 = .ok (.putfield 7, 3) := by decide +kernel
theorem d4_9 : decode jdk_39_method_1_code 9 = .ok (.return_, 1) := by decide +kernel
theorem pn_1 : plainName "java/util/AbstractList" = true := by first | (simp [plainName, overriddenIn]; done) | decide +kernel
theorem ef_1 (m : MethodId) (x0 : Addr) : entryFrame m #[(.ref x0)] 1 = mkF m 0 #[.val (.ref x0)] [] := by first | (simp [entryFrame, mkF, argsToLocals, Value.category]; done) | rfl
-- AbstractList.init 
def Q4_2 (Z : State) (u1 : Addr) (h0 : Heap) (n0 : Nat) (v : Option Value) (h : Heap) (L : List Loc) : Prop := v = none ∧ Fr n0 L ∧ Keep h0 h [u1] ∧ Exa Z h u1 "java/util/ArrayList" ∧ Fld Z h u1 "java/util/AbstractList" "modCount" "I" (.int 0) ∧ Fld Z h u1 "java/util/ArrayList" "elementData" "[Ljava/lang/Object;" .null
set_option maxRecDepth 65536 in
set_option maxHeartbeats 40000000 in
theorem rm4_2 (l : Launch) (Z : State) (a0 : Array Value) (hw : HW Z a0) (ws : List Jvm.Cond) (u1 : Addr) (h0 : Heap) (n0 : Nat) (Z0 : n0 ≤ h0.size) (P1 : Exa Z h0 u1 "java/util/ArrayList") (P2 : Fld Z h0 u1 "java/util/AbstractList" "modCount" "I" (.int 0)) (P3 : Fld Z h0 u1 "java/util/ArrayList" "elementData" "[Ljava/lang/Object;" .null) (P4 : n0 ≤ u1) :
    MF l Z (⟨"java/util/AbstractList", "<init>", "()V"⟩ : MethodName) (Jvm.Cond.code (⟨"java/util/AbstractList", "<init>", "()V"⟩ : MethodName) jdk_39_method_1_code 1 none) ws ({ frames := 2, cells := 0, slots := 0, locals := 24 } : Room) #[(.ref u1)] h0 (Q4_2 Z u1 h0 n0) := by
  refine MetFree.of_bodySF (plainFor_of_name pn_1) hisR ?_
  intro p e s m args below meth c s₁ Bd hml0 hP hK
  obtain ⟨rfl, hZ, hh⟩ := hP
  have hx := Bd.exec
  have hby := Bd.bytes
  have hml : c.maxLocals = 1 := hml0
  have hown : s.vm.findClass "java/util/AbstractList" = some m.cls := findClass_of_methodNamed Bd.named
  have hnm := (name_of_methodNamed Bd.named Bd.method).1
  have X0 : Stand p l e ({ frames := 2, cells := 0, slots := 0, locals := 24 } : Room) s m #[(.ref u1)] below meth c s₁ [] 0 0 := Stand.of_body Bd
  have e0 : s₁.heap = h0 := by rw [← hh, Bd.state]; rfl
  have N0 := Fr.nil n0
  have pre0 : ∀ t, SF p e below s₁ (mkF m 0 #[rv u1] []) t → SF p e below s₁ (entryFrame m #[(.ref u1)] 1) t := fun t k => castTop (ef_1 m u1) k
  obtain ⟨_, _, ⟨T1, L1, k1x, n1⟩, -, X1, ⟨Lc1, hQ1, l1, y1, z1⟩, st1⟩ := X0.specialBack hx (y := (⟨"java/util/AbstractCollection", "<init>", "()V"⟩ : MethodName)) rfl hown (mvT hZ (tw hw 22 rfl)) (mvT hZ (tw hw 23 rfl)) (mvT hZ (tw hw 27 rfl)) (by decide) (backOf (W := 0) (rm5_1 l Z a0 hw [] u1 h0 n0 Z0 ) hZ (tw hw 27 rfl) (tw hw 26 rfl) (by decide) (by decide)) (g := (mkF m 1 #[rv u1] [(.ref u1)])) rfl (by rw [hml]; rfl) (Steps.refl _) (a := u1) (argsL := []) (rest := []) (lenOf pd_0 rfl) rfl (by show 2 * 0 + _ ≤ _; exact Nat.le_of_eq rfl) (hb hby d4_1) (fun _ _ => ⟨rfl, e0, (by decide : 0 + 0 ≤ _), (by decide : 0 + 0 ≤ _)⟩)
  dsimp only [Pt.U, Pt.locs, Pt.cells, Pt.slots] at X1 l1 y1 z1 st1 hQ1
  subst l1 y1 z1
  obtain ⟨rfl, N1q, e1⟩ := hQ1
  have N1 := Fr.app N0 N1q
  obtain ⟨T2, h2, X2, e2, W2, st2⟩ := putF X1 hx hZ hown (host := "") (Or.inl (tw hw 29 rfl)) Via.refl e1 P2 P1 (Or.inl (tw hw 30 rfl)) (tw hw 11 rfl) (ty := .int) (by decide) rfl rfl (g := (mkF m 6 #[rv u1] [(.int 0), (.ref u1)])) rfl rfl (hb hby d4_6)
  have K2 : Keep h0 h2 [u1] := (Keep.refl h0 [u1]).wr W2 (Or.inl (List.mem_of_getElem? (i := 0) rfl))
  have N2 := Fr.snoc X2 N1 P4
  have Fw2 : Fld Z h2 u1 "java/util/AbstractList" "modCount" "I" (.int 0) := P2.same W2
  have F1_3 : Exa Z h2 u1 "java/util/ArrayList" := P1.wr W2
  have F1_4 : Fld Z h2 u1 "java/util/ArrayList" "elementData" "[Ljava/lang/Object;" .null := P3.other W2 (Or.inr (slot_ne (Or.inl (tw hw 33 rfl)) (Or.inl (tw hw 30 rfl)) (by decide) (t := (.array (.object "java/lang/Object"))) (t' := .int) (by decide) (by decide)))
  obtain ⟨fs, hr, hrun, hended, hW, hsame⟩ := X2.leave (v := none) (fun _ => rfl)
  refine ⟨_, _, pre0 _ ?_, hrun, hended, _, _, rfl, ?_, ⟨_, rfl⟩, hW, hsame.mono (by decide) (by decide)⟩
  · show SF p e below s₁ (mkF m 0 #[rv u1] []) _
    refine XS.aloadN X0.here hx rfl (hb hby d4_0) rfl rfl ?_
    show SF p e below s₁ (mkF m 1 #[rv u1] [(.ref u1)]) _
    refine st1.trans ?_
    show SF p e below T1 (mkF m 4 #[rv u1] []) _
    refine XS.aloadN X1.here hx rfl (hb hby d4_4) rfl rfl ?_
    show SF p e below T1 (mkF m 5 #[rv u1] [(.ref u1)]) _
    refine XS.iconst X1.here hx rfl (hb hby d4_5) ?_
    show SF p e below T1 (mkF m 6 #[rv u1] [(.int 0), (.ref u1)]) _
    refine st2 _ ?_
    show SF p e below T2 (mkF m 9 #[rv u1] []) _
    exact X2.returnOut hx Bd.returns (hb hby d4_9) hr
  · show Q4_2 Z u1 h0 n0 _ T2.heap _
    rw [e2]
    exact ⟨rfl, N2, K2, F1_3, Fw2, F1_4⟩
theorem d3_4 : decode jdk_38_method_2_code 4 = .ok (.aload_n 0, 1) := by decide +kernel
theorem d3_5 : decode jdk_38_method_2_code 5 = .ok (.getstatic 39, 3) := by decide +kernel
theorem d3_8 : decode jdk_38_method_2_code 8 = .ok (.putfield 9, 3) := by decide +kernel
theorem d3_11 : decode jdk_38_method_2_code 11 = .ok (.return_, 1) := by decide +kernel
theorem pn_2 : plainName "java/util/ArrayList" = true := by first | (simp [plainName, overriddenIn]; done) | decide +kernel
theorem ef_2 (m : MethodId) (x0 : Addr) : entryFrame m #[(.ref x0)] 1 = mkF m 0 #[.val (.ref x0)] [] := by first | (simp [entryFrame, mkF, argsToLocals, Value.category]; done) | rfl
-- ArrayList.init 
def Q3_3 (Z : State) (u1 : Addr) (w2 : Addr) (h0 : Heap) (n0 : Nat) (v : Option Value) (h : Heap) (L : List Loc) : Prop := v = none ∧ Fr n0 L ∧ Keep h0 h [u1] ∧ Exa Z h u1 "java/util/ArrayList" ∧ Fld Z h u1 "java/util/AbstractList" "modCount" "I" (.int 0) ∧ Fld Z h u1 "java/util/ArrayList" "elementData" "[Ljava/lang/Object;" (.ref w2)
set_option maxRecDepth 65536 in
set_option maxHeartbeats 40000000 in
theorem rm3_3 (l : Launch) (Z : State) (a0 : Array Value) (hw : HW Z a0) (ws : List Jvm.Cond) (u1 : Addr) (w2 : Addr) (h0 : Heap) (n0 : Nat) (Z0 : n0 ≤ h0.size) (P1 : Exa Z h0 u1 "java/util/ArrayList") (P2 : Fld Z h0 u1 "java/util/AbstractList" "modCount" "I" (.int 0)) (P3 : Fld Z h0 u1 "java/util/ArrayList" "elementData" "[Ljava/lang/Object;" .null) (P4 : n0 ≤ u1) (Sg2 : Sta Z Z.heap "java/util/ArrayList" "DEFAULTCAPACITY_EMPTY_ELEMENTDATA" "[Ljava/lang/Object;" (.ref w2)) (P6 : Old Z n0 h0) :
    MF l Z (⟨"java/util/ArrayList", "<init>", "()V"⟩ : MethodName) (Jvm.Cond.code (⟨"java/util/ArrayList", "<init>", "()V"⟩ : MethodName) jdk_38_method_2_code 1 none) ws ({ frames := 3, cells := 0, slots := 0, locals := 36 } : Room) #[(.ref u1)] h0 (Q3_3 Z u1 w2 h0 n0) := by
  refine MetFree.of_bodySF (plainFor_of_name pn_2) hisR ?_
  intro p e s m args below meth c s₁ Bd hml0 hP hK
  obtain ⟨rfl, hZ, hh⟩ := hP
  have hx := Bd.exec
  have hby := Bd.bytes
  have hml : c.maxLocals = 1 := hml0
  have hown : s.vm.findClass "java/util/ArrayList" = some m.cls := findClass_of_methodNamed Bd.named
  have hnm := (name_of_methodNamed Bd.named Bd.method).1
  have X0 : Stand p l e ({ frames := 3, cells := 0, slots := 0, locals := 36 } : Room) s m #[(.ref u1)] below meth c s₁ [] 0 0 := Stand.of_body Bd
  have e0 : s₁.heap = h0 := by rw [← hh, Bd.state]; rfl
  have N0 := Fr.nil n0
  have pre0 : ∀ t, SF p e below s₁ (mkF m 0 #[rv u1] []) t → SF p e below s₁ (entryFrame m #[(.ref u1)] 1) t := fun t k => castTop (ef_2 m u1) k
  obtain ⟨_, _, ⟨T1, L1, k1x, n1⟩, -, X1, ⟨Lc1, hQ1, l1, y1, z1⟩, st1⟩ := X0.specialBack hx (y := (⟨"java/util/AbstractList", "<init>", "()V"⟩ : MethodName)) rfl hown (mvT hZ (tw hw 16 rfl)) (mvT hZ (tw hw 17 rfl)) (mvT hZ (tw hw 21 rfl)) (by decide) (backOf (W := 0) (rm4_2 l Z a0 hw [] u1 h0 n0 Z0 P1 P2 P3 P4) hZ (tw hw 21 rfl) (tw hw 20 rfl) (by decide) (by decide)) (g := (mkF m 1 #[rv u1] [(.ref u1)])) rfl (by rw [hml]; rfl) (Steps.refl _) (a := u1) (argsL := []) (rest := []) (lenOf pd_0 rfl) rfl (by show 2 * 0 + _ ≤ _; exact Nat.le_of_eq rfl) (hb hby d3_1) (fun _ _ => ⟨rfl, e0, (by decide : 0 + 0 ≤ _), (by decide : 0 + 0 ≤ _)⟩)
  dsimp only [Pt.U, Pt.locs, Pt.cells, Pt.slots] at X1 l1 y1 z1 st1 hQ1
  subst l1 y1 z1
  obtain ⟨rfl, N1q, K1c, Fq1_0, Fq1_1, Fq1_2⟩ := hQ1
  have K1 : Keep h0 T1.heap [u1] := (Keep.refl h0 [u1]).trans K1c (allS (Or.inl (List.mem_of_getElem? (i := 0) rfl)) all0)
  have N1 := Fr.app N0 N1q
  have O1 : Old Z n0 T1.heap := P6.keep K1c (allS P4 all0)
  obtain ⟨T2, X2, e2, st2⟩ := getS2 X1 hx hZ hown (host := "") (Or.inl (tw hw 31 rfl)) Via.refl rfl (Sg2.ext O1.2) (g := (mkF m 5 #[rv u1] [(.ref u1)])) rfl (hb hby d3_5)
  obtain ⟨T3, h3, X3, e3, W3, st3⟩ := putF X2 hx hZ hown (host := "") (Or.inl (tw hw 32 rfl)) Via.refl e2 Fq1_2 Fq1_0 (Or.inl (tw hw 33 rfl)) (tw hw 11 rfl) (ty := (.array (.object "java/lang/Object"))) (by decide) rfl rfl (g := (mkF m 8 #[rv u1] [(.ref w2), (.ref u1)])) rfl rfl (hb hby d3_8)
  have K3 : Keep h0 h3 [u1] := K1.wr W3 (Or.inl (List.mem_of_getElem? (i := 0) rfl))
  have N3 := Fr.snoc X3 N1 P4
  have Fw3 : Fld Z h3 u1 "java/util/ArrayList" "elementData" "[Ljava/lang/Object;" (.ref w2) := Fq1_2.same W3
  have F2_4 : Exa Z h3 u1 "java/util/ArrayList" := Fq1_0.wr W3
  have F2_5 : Fld Z h3 u1 "java/util/AbstractList" "modCount" "I" (.int 0) := Fq1_1.other W3 (Or.inr (slot_ne (Or.inl (tw hw 30 rfl)) (Or.inl (tw hw 33 rfl)) (by decide) (t := .int) (t' := (.array (.object "java/lang/Object"))) (by decide) (by decide)))
  obtain ⟨fs, hr, hrun, hended, hW, hsame⟩ := X3.leave (v := none) (fun _ => rfl)
  refine ⟨_, _, pre0 _ ?_, hrun, hended, _, _, rfl, ?_, ⟨_, rfl⟩, hW, hsame.mono (by decide) (by decide)⟩
  · show SF p e below s₁ (mkF m 0 #[rv u1] []) _
    refine XS.aloadN X0.here hx rfl (hb hby d3_0) rfl rfl ?_
    show SF p e below s₁ (mkF m 1 #[rv u1] [(.ref u1)]) _
    refine st1.trans ?_
    show SF p e below T1 (mkF m 4 #[rv u1] []) _
    refine XS.aloadN X1.here hx rfl (hb hby d3_4) rfl rfl ?_
    show SF p e below T1 (mkF m 5 #[rv u1] [(.ref u1)]) _
    refine st2 _ ?_
    show SF p e below T2 (mkF m 8 #[rv u1] [(.ref w2), (.ref u1)]) _
    refine st3 _ ?_
    show SF p e below T3 (mkF m 11 #[rv u1] []) _
    exact X3.returnOut hx Bd.returns (hb hby d3_11) hr
  · show Q3_3 Z u1 w2 h0 n0 _ T3.heap _
    rw [e3]
    exact ⟨rfl, N3, K3, F2_4, F2_5, Fw3⟩
theorem d1_12 : decode prog_10_method_1_code 12 = .ok (.putfield 10, 3) := by decide +kernel
theorem d1_15 : decode prog_10_method_1_code 15 = .ok (.aload_n 0, 1) := by decide +kernel
theorem d1_16 : decode prog_10_method_1_code 16 = .ok (.new 16, 3) := by decide +kernel
theorem d1_19 : decode prog_10_method_1_code 19 = .ok (.dup, 1) := by decide +kernel
theorem d1_20 : decode prog_10_method_1_code 20 = .ok (.invokespecial 18, 3) := by decide +kernel
theorem d6_0 : decode jdk_69_method_7_code 0 = .ok (.aload_n 0, 1) := by decide +kernel
theorem d6_1 : decode jdk_69_method_7_code 1 = .ok (.invokespecial 43, 3) := by decide +kernel
theorem d7_0 : decode jdk_71_method_1_code 0 = .ok (.aload_n 0, 1) := by decide +kernel
theorem d7_1 : decode jdk_71_method_1_code 1 = .ok (.invokespecial 1, 3) := by decide +kernel
theorem d7_4 : decode jdk_71_method_1_code 4 = .ok (.return_, 1) := by decide +kernel
theorem pn_3 : plainName "java/util/AbstractMap" = true := by first | (simp [plainName, overriddenIn]; done) | decide +kernel
theorem ef_3 (m : MethodId) (x0 : Addr) : entryFrame m #[(.ref x0)] 1 = mkF m 0 #[.val (.ref x0)] [] := by first | (simp [entryFrame, mkF, argsToLocals, Value.category]; done) | rfl
-- AbstractMap.init 
def Q7_4 (Z : State) (u1 : Addr) (h0 : Heap) (n0 : Nat) (v : Option Value) (h : Heap) (L : List Loc) : Prop := v = none ∧ Fr n0 L ∧ h = h0
set_option maxRecDepth 65536 in
set_option maxHeartbeats 40000000 in
theorem rm7_4 (l : Launch) (Z : State) (a0 : Array Value) (hw : HW Z a0) (ws : List Jvm.Cond) (u1 : Addr) (h0 : Heap) (n0 : Nat) (Z0 : n0 ≤ h0.size) :
    MF l Z (⟨"java/util/AbstractMap", "<init>", "()V"⟩ : MethodName) (Jvm.Cond.code (⟨"java/util/AbstractMap", "<init>", "()V"⟩ : MethodName) jdk_71_method_1_code 1 none) ws ({ frames := 1, cells := 0, slots := 0, locals := 12 } : Room) #[(.ref u1)] h0 (Q7_4 Z u1 h0 n0) := by
  refine MetFree.of_bodySF (plainFor_of_name pn_3) hisR ?_
  intro p e s m args below meth c s₁ Bd hml0 hP hK
  obtain ⟨rfl, hZ, hh⟩ := hP
  have hx := Bd.exec
  have hby := Bd.bytes
  have hml : c.maxLocals = 1 := hml0
  have hown : s.vm.findClass "java/util/AbstractMap" = some m.cls := findClass_of_methodNamed Bd.named
  have hnm := (name_of_methodNamed Bd.named Bd.method).1
  have X0 : Stand p l e ({ frames := 1, cells := 0, slots := 0, locals := 12 } : Room) s m #[(.ref u1)] below meth c s₁ [] 0 0 := Stand.of_body Bd
  have e0 : s₁.heap = h0 := by rw [← hh, Bd.state]; rfl
  have N0 := Fr.nil n0
  have pre0 : ∀ t, SF p e below s₁ (mkF m 0 #[rv u1] []) t → SF p e below s₁ (entryFrame m #[(.ref u1)] 1) t := fun t k => castTop (ef_3 m u1) k
  obtain ⟨T1, X1, e1, st1⟩ := initO X0 hx hZ hown (tw hw 48 rfl) (tw hw 8 rfl) (tw hw 9 rfl) e0 (g := (mkF m 1 #[rv u1] [(.ref u1)])) rfl (by rw [hml]; rfl) rfl (hb hby d7_1) (by decide) (W := 0) (by show 2 * 0 + _ ≤ _; exact Nat.le_of_eq rfl) (by decide)
  obtain ⟨fs, hr, hrun, hended, hW, hsame⟩ := X1.leave (v := none) (fun _ => rfl)
  refine ⟨_, _, pre0 _ ?_, hrun, hended, _, _, rfl, ?_, ⟨_, rfl⟩, hW, hsame.mono (by decide) (by decide)⟩
  · show SF p e below s₁ (mkF m 0 #[rv u1] []) _
    refine XS.aloadN X0.here hx rfl (hb hby d7_0) rfl rfl ?_
    show SF p e below s₁ (mkF m 1 #[rv u1] [(.ref u1)]) _
    refine st1 _ ?_
    show SF p e below T1 (mkF m 4 #[rv u1] []) _
    exact X1.returnOut hx Bd.returns (hb hby d7_4) hr
  · show Q7_4 Z u1 h0 n0 _ T1.heap _
    rw [e1]
    exact ⟨rfl, N0, rfl⟩
theorem d6_4 : decode jdk_69_method_7_code 4 = .ok (.aload_n 0, 1) := by decide +kernel
theorem d6_5 : decode jdk_69_method_7_code 5 = .ok (.ldc 92, 2) := by decide +kernel
theorem d6_7 : decode jdk_69_method_7_code 7 = .ok (.putfield 81, 3) := by decide +kernel
theorem d6_10 : decode jdk_69_method_7_code 10 = .ok (.return_, 1) := by decide +kernel
theorem pn_4 : plainName "java/util/HashMap" = true := by first | (simp [plainName, overriddenIn]; done) | decide +kernel
theorem ef_4 (m : MethodId) (x0 : Addr) : entryFrame m #[(.ref x0)] 1 = mkF m 0 #[.val (.ref x0)] [] := by first | (simp [entryFrame, mkF, argsToLocals, Value.category]; done) | rfl
-- HashMap.init 
def Q6_5 (Z : State) (u1 : Addr) (h0 : Heap) (n0 : Nat) (v : Option Value) (h : Heap) (L : List Loc) : Prop := v = none ∧ Fr n0 L ∧ Keep h0 h [u1] ∧ Exa Z h u1 "java/util/HashMap" ∧ Fld Z h u1 "java/util/HashMap" "loadFactor" "F" (.float (1061158912 : UInt32))
set_option maxRecDepth 65536 in
set_option maxHeartbeats 40000000 in
theorem rm6_5 (l : Launch) (Z : State) (a0 : Array Value) (hw : HW Z a0) (ws : List Jvm.Cond) (u1 : Addr) (h0 : Heap) (n0 : Nat) (Z0 : n0 ≤ h0.size) (P1 : Exa Z h0 u1 "java/util/HashMap") (P2 : Fld Z h0 u1 "java/util/HashMap" "loadFactor" "F" (.float 0)) (P3 : n0 ≤ u1) :
    MF l Z (⟨"java/util/HashMap", "<init>", "()V"⟩ : MethodName) (Jvm.Cond.code (⟨"java/util/HashMap", "<init>", "()V"⟩ : MethodName) jdk_69_method_7_code 1 none) ws ({ frames := 2, cells := 0, slots := 0, locals := 24 } : Room) #[(.ref u1)] h0 (Q6_5 Z u1 h0 n0) := by
  refine MetFree.of_bodySF (plainFor_of_name pn_4) hisR ?_
  intro p e s m args below meth c s₁ Bd hml0 hP hK
  obtain ⟨rfl, hZ, hh⟩ := hP
  have hx := Bd.exec
  have hby := Bd.bytes
  have hml : c.maxLocals = 1 := hml0
  have hown : s.vm.findClass "java/util/HashMap" = some m.cls := findClass_of_methodNamed Bd.named
  have hnm := (name_of_methodNamed Bd.named Bd.method).1
  have X0 : Stand p l e ({ frames := 2, cells := 0, slots := 0, locals := 24 } : Room) s m #[(.ref u1)] below meth c s₁ [] 0 0 := Stand.of_body Bd
  have e0 : s₁.heap = h0 := by rw [← hh, Bd.state]; rfl
  have N0 := Fr.nil n0
  have pre0 : ∀ t, SF p e below s₁ (mkF m 0 #[rv u1] []) t → SF p e below s₁ (entryFrame m #[(.ref u1)] 1) t := fun t k => castTop (ef_4 m u1) k
  obtain ⟨_, _, ⟨T1, L1, k1x, n1⟩, -, X1, ⟨Lc1, hQ1, l1, y1, z1⟩, st1⟩ := X0.specialBack hx (y := (⟨"java/util/AbstractMap", "<init>", "()V"⟩ : MethodName)) rfl hown (mvT hZ (tw hw 42 rfl)) (mvT hZ (tw hw 43 rfl)) (mvT hZ (tw hw 47 rfl)) (by decide) (backOf (W := 0) (rm7_4 l Z a0 hw [] u1 h0 n0 Z0 ) hZ (tw hw 47 rfl) (tw hw 46 rfl) (by decide) (by decide)) (g := (mkF m 1 #[rv u1] [(.ref u1)])) rfl (by rw [hml]; rfl) (Steps.refl _) (a := u1) (argsL := []) (rest := []) (lenOf pd_0 rfl) rfl (by show 2 * 0 + _ ≤ _; exact Nat.le_of_eq rfl) (hb hby d6_1) (fun _ _ => ⟨rfl, e0, (by decide : 0 + 0 ≤ _), (by decide : 0 + 0 ≤ _)⟩)
  dsimp only [Pt.U, Pt.locs, Pt.cells, Pt.slots] at X1 l1 y1 z1 st1 hQ1
  subst l1 y1 z1
  obtain ⟨rfl, N1q, e1⟩ := hQ1
  have N1 := Fr.app N0 N1q
  obtain ⟨T2, h2, X2, e2, W2, st2⟩ := putF X1 hx hZ hown (host := "") (Or.inl (tw hw 50 rfl)) Via.refl e1 P2 P1 (Or.inr ⟨(tw hw 51 rfl), rfl, hnm⟩) (tw hw 37 rfl) (ty := .float) (by decide) rfl rfl (g := (mkF m 7 #[rv u1] [(.float (1061158912 : UInt32)), (.ref u1)])) rfl rfl (hb hby d6_7)
  have K2 : Keep h0 h2 [u1] := (Keep.refl h0 [u1]).wr W2 (Or.inl (List.mem_of_getElem? (i := 0) rfl))
  have N2 := Fr.snoc X2 N1 P3
  have Fw2 : Fld Z h2 u1 "java/util/HashMap" "loadFactor" "F" (.float (1061158912 : UInt32)) := P2.same W2
  have F1_3 : Exa Z h2 u1 "java/util/HashMap" := P1.wr W2
  obtain ⟨fs, hr, hrun, hended, hW, hsame⟩ := X2.leave (v := none) (fun _ => rfl)
  refine ⟨_, _, pre0 _ ?_, hrun, hended, _, _, rfl, ?_, ⟨_, rfl⟩, hW, hsame.mono (by decide) (by decide)⟩
  · show SF p e below s₁ (mkF m 0 #[rv u1] []) _
    refine XS.aloadN X0.here hx rfl (hb hby d6_0) rfl rfl ?_
    show SF p e below s₁ (mkF m 1 #[rv u1] [(.ref u1)]) _
    refine st1.trans ?_
    show SF p e below T1 (mkF m 4 #[rv u1] []) _
    refine XS.aloadN X1.here hx rfl (hb hby d6_4) rfl rfl ?_
    show SF p e below T1 (mkF m 5 #[rv u1] [(.ref u1)]) _
    refine X1.ldcFloatC hx hown (mvT hZ (tw hw 49 rfl)) (g := (mkF m 5 #[rv u1] [(.ref u1)])) rfl (hb hby d6_5) _ ?_
    show SF p e below T1 (mkF m 7 #[rv u1] [(.float (1061158912 : UInt32)), (.ref u1)]) _
    refine st2 _ ?_
    show SF p e below T2 (mkF m 10 #[rv u1] []) _
    exact X2.returnOut hx Bd.returns (hb hby d6_10) hr
  · show Q6_5 Z u1 h0 n0 _ T2.heap _
    rw [e2]
    exact ⟨rfl, N2, K2, F1_3, Fw2⟩
theorem d1_23 : decode prog_10_method_1_code 23 = .ok (.putfield 19, 3) := by decide +kernel
theorem d1_26 : decode prog_10_method_1_code 26 = .ok (.aload_n 0, 1) := by decide +kernel
theorem d1_27 : decode prog_10_method_1_code 27 = .ok (.new 23, 3) := by decide +kernel
theorem d1_30 : decode prog_10_method_1_code 30 = .ok (.dup, 1) := by decide +kernel
theorem d1_31 : decode prog_10_method_1_code 31 = .ok (.invokespecial 25, 3) := by decide +kernel
theorem d8_0 : decode jdk_92_method_4_code 0 = .ok (.aload_n 0, 1) := by decide +kernel
theorem d8_1 : decode jdk_92_method_4_code 1 = .ok (.invokespecial 21, 3) := by decide +kernel
theorem d8_4 : decode jdk_92_method_4_code 4 = .ok (.aload_n 0, 1) := by decide +kernel
theorem d8_5 : decode jdk_92_method_4_code 5 = .ok (.iconst 0, 1) := by decide +kernel
theorem d8_6 : decode jdk_92_method_4_code 6 = .ok (.putfield 7, 3) := by decide +kernel
theorem d8_9 : decode jdk_92_method_4_code 9 = .ok (.aload_n 0, 1) := by decide +kernel
theorem d8_10 : decode jdk_92_method_4_code 10 = .ok (.iconst 0, 1) := by decide +kernel
theorem d8_11 : decode jdk_92_method_4_code 11 = .ok (.putfield 24, 3) := by decide +kernel
theorem d8_14 : decode jdk_92_method_4_code 14 = .ok (.aload_n 0, 1) := by decide +kernel
theorem d8_15 : decode jdk_92_method_4_code 15 = .ok (.bipush 64, 2) := by decide +kernel
theorem d8_17 : decode jdk_92_method_4_code 17 = .ok (.invokevirtual 27, 3) := by decide +kernel
theorem d9_0 : decode jdk_92_method_6_code 0 = .ok (.aload_n 0, 1) := by decide +kernel
theorem d9_1 : decode jdk_92_method_6_code 1 = .ok (.iload_n 1, 1) := by decide +kernel
theorem d9_2 : decode jdk_92_method_6_code 2 = .ok (.iconst 1, 1) := by decide +kernel
theorem d9_3 : decode jdk_92_method_6_code 3 = .ok (.isub, 1) := by decide +kernel
theorem d9_4 : decode jdk_92_method_6_code 4 = .ok (.invokestatic 52, 3) := by decide +kernel
theorem d10_0 : decode jdk_92_method_1_code 0 = .ok (.iload_n 0, 1) := by decide +kernel
theorem d10_1 : decode jdk_92_method_1_code 1 = .ok (.bipush 6, 2) := by decide +kernel
theorem d10_3 : decode jdk_92_method_1_code 3 = .ok (.ishr, 1) := by decide +kernel
theorem d10_4 : decode jdk_92_method_1_code 4 = .ok (.ireturn, 1) := by decide +kernel
theorem pn_5 : plainName "java/util/BitSet" = true := by first | (simp [plainName, overriddenIn]; done) | decide +kernel
theorem ef_5 (m : MethodId) (x0 : Int32) : entryFrame m #[(.int x0)] 1 = mkF m 0 #[.val (.int x0)] [] := by first | (simp [entryFrame, mkF, argsToLocals, Value.category]; done) | rfl
-- BitSet.wordIndex 
def Q10_6 (Z : State)  (h0 : Heap) (n0 : Nat) (v : Option Value) (h : Heap) (L : List Loc) : Prop := v = some (.int 0) ∧ Fr n0 L ∧ h = h0
set_option maxRecDepth 65536 in
set_option maxHeartbeats 40000000 in
theorem rm10_6 (l : Launch) (Z : State) (a0 : Array Value) (hw : HW Z a0) (ws : List Jvm.Cond)  (h0 : Heap) (n0 : Nat) (Z0 : n0 ≤ h0.size) :
    MF l Z (⟨"java/util/BitSet", "wordIndex", "(I)I"⟩ : MethodName) (Jvm.Cond.code (⟨"java/util/BitSet", "wordIndex", "(I)I"⟩ : MethodName) jdk_92_method_1_code 1 (some .int)) ws ({ frames := 0, cells := 0, slots := 0, locals := 0 } : Room) #[(.int 63)] h0 (Q10_6 Z  h0 n0) := by
  refine MetFree.of_bodySF (plainFor_of_name pn_5) hisR ?_
  intro p e s m args below meth c s₁ Bd hml0 hP hK
  obtain ⟨rfl, hZ, hh⟩ := hP
  have hx := Bd.exec
  have hby := Bd.bytes
  have hml : c.maxLocals = 1 := hml0
  have hown : s.vm.findClass "java/util/BitSet" = some m.cls := findClass_of_methodNamed Bd.named
  have hnm := (name_of_methodNamed Bd.named Bd.method).1
  have X0 : Stand p l e ({ frames := 0, cells := 0, slots := 0, locals := 0 } : Room) s m #[(.int 63)] below meth c s₁ [] 0 0 := Stand.of_body Bd
  have e0 : s₁.heap = h0 := by rw [← hh, Bd.state]; rfl
  have N0 := Fr.nil n0
  have pre0 : ∀ t, SF p e below s₁ (mkF m 0 #[iv 63] []) t → SF p e below s₁ (entryFrame m #[(.int 63)] 1) t := fun t k => castTop (ef_5 m (63 : Int32)) k
  obtain ⟨fs, hr, hrun, hended, hW, hsame⟩ := X0.leave (v := some (.int 0)) (fun h => by rw [Bd.returns] at h; cases h)
  refine ⟨_, _, pre0 _ ?_, hrun, hended, _, _, rfl, ?_, ⟨_, rfl⟩, hW, hsame.mono (by decide) (by decide)⟩
  · show SF p e below s₁ (mkF m 0 #[iv 63] []) _
    refine XS.iloadN X0.here hx rfl (hb hby d10_0) rfl ?_
    show SF p e below s₁ (mkF m 1 #[iv 63] [(.int 63)]) _
    refine XS.bipush X0.here hx rfl (hb hby d10_1) ?_
    show SF p e below s₁ (mkF m 3 #[iv 63] [(.int 6), (.int 63)]) _
    refine XS.ishr X0.here hx rfl (hb hby d10_3) rfl ?_
    show SF p e below s₁ (mkF m 4 #[iv 63] [(.int ((63 : Int32) >>> ((6 : Int32) &&& 31)))]) _
    rw [show ((63 : Int32) >>> ((6 : Int32) &&& 31)) = (0 : Int32) from by decide]
    show SF p e below s₁ (mkF m 4 #[iv 63] [(.int 0)]) _
    exact retI X0 hx Bd.returns (hb hby d10_4) hr
  · show Q10_6 Z  h0 n0 _ s₁.heap _
    rw [e0]
    exact ⟨rfl, N0, rfl⟩
theorem pd_1 : parseMethodDescriptor "(I)I" = some ⟨[.int], some .int⟩ := by decide +kernel
theorem d9_7 : decode jdk_92_method_6_code 7 = .ok (.iconst 1, 1) := by decide +kernel
theorem d9_8 : decode jdk_92_method_6_code 8 = .ok (.iadd, 1) := by decide +kernel
theorem d9_9 : decode jdk_92_method_6_code 9 = .ok (.newarray .long, 2) := by decide +kernel
theorem d9_11 : decode jdk_92_method_6_code 11 = .ok (.putfield 11, 3) := by decide +kernel
theorem d9_14 : decode jdk_92_method_6_code 14 = .ok (.return_, 1) := by decide +kernel
theorem ef_6 (m : MethodId) (x0 : Addr) (x1 : Int32) : entryFrame m #[(.ref x0), (.int x1)] 2 = mkF m 0 #[.val (.ref x0), .val (.int x1)] [] := by first | (simp [entryFrame, mkF, argsToLocals, Value.category]; done) | rfl
-- BitSet.initWords 
def Q9_7 (Z : State) (u1 : Addr) (h0 : Heap) (n0 : Nat) (v : Option Value) (h : Heap) (L : List Loc) : Prop := ∃ e1x : Addr, ∃ e2x : ClassId, h0.size ≤ e1x ∧ v = none ∧ Fr n0 L ∧ Keep h0 h [u1] ∧ Exa Z h u1 "java/util/BitSet" ∧ Fld Z h u1 "java/util/BitSet" "wordsInUse" "I" (.int 0) ∧ Fld Z h u1 "java/util/BitSet" "sizeIsSticky" "Z" (.int 0) ∧ Fld Z h u1 "java/util/BitSet" "words" "[J" (.ref e1x) ∧ Arv Z h e1x e2x .long (1 : Int32) [(.long 0)] (.long (0 : Int64))
set_option maxRecDepth 65536 in
set_option maxHeartbeats 40000000 in
theorem rm9_7 (l : Launch) (Z : State) (a0 : Array Value) (hw : HW Z a0) (ws : List Jvm.Cond) (u1 : Addr) (h0 : Heap) (n0 : Nat) (Z0 : n0 ≤ h0.size) (P1 : Exa Z h0 u1 "java/util/BitSet") (P2 : Fld Z h0 u1 "java/util/BitSet" "wordsInUse" "I" (.int 0)) (P3 : Fld Z h0 u1 "java/util/BitSet" "sizeIsSticky" "Z" (.int 0)) (P4 : Fld Z h0 u1 "java/util/BitSet" "words" "[J" .null) (P5 : n0 ≤ u1) (P6 : u1 < h0.size) :
    MF l Z (⟨"java/util/BitSet", "initWords", "(I)V"⟩ : MethodName) (Jvm.Cond.code (⟨"java/util/BitSet", "initWords", "(I)V"⟩ : MethodName) jdk_92_method_6_code 2 none) ws ({ frames := 1, cells := 1, slots := 1, locals := 13 } : Room) #[(.ref u1), (.int 64)] h0 (Q9_7 Z u1 h0 n0) := by
  refine MetFree.of_bodySF (plainFor_of_name pn_5) hisR ?_
  intro p e s m args below meth c s₁ Bd hml0 hP hK
  obtain ⟨rfl, hZ, hh⟩ := hP
  have hx := Bd.exec
  have hby := Bd.bytes
  have hml : c.maxLocals = 2 := hml0
  have hown : s.vm.findClass "java/util/BitSet" = some m.cls := findClass_of_methodNamed Bd.named
  have hnm := (name_of_methodNamed Bd.named Bd.method).1
  have X0 : Stand p l e ({ frames := 1, cells := 1, slots := 1, locals := 13 } : Room) s m #[(.ref u1), (.int 64)] below meth c s₁ [] 0 0 := Stand.of_body Bd
  have e0 : s₁.heap = h0 := by rw [← hh, Bd.state]; rfl
  have N0 := Fr.nil n0
  have pre0 : ∀ t, SF p e below s₁ (mkF m 0 #[rv u1, iv 64] []) t → SF p e below s₁ (entryFrame m #[(.ref u1), (.int 64)] 2) t := fun t k => castTop (ef_6 m u1 (64 : Int32)) k
  obtain ⟨_, _, ⟨T1, L1, k1x, n1⟩, -, X1, ⟨Lc1, hQ1, l1, y1, z1⟩, st1⟩ := Jvm.LawKit.callS X0 hx (y := (⟨"java/util/BitSet", "wordIndex", "(I)I"⟩ : MethodName)) hown (mvT hZ (tw hw 70 rfl)) (mvT hZ (tw hw 71 rfl)) (mvT hZ (tw hw 56 rfl)) (mvT hZ (tw hw 72 rfl)) (by decide) (backOf (W := 1) (rm10_6 l Z a0 hw []  h0 n0 Z0 ) hZ (tw hw 72 rfl) (tw hw 56 rfl) (by decide) (by decide)) (g := (mkF m 4 #[rv u1, iv 64] [(.int 63), (.ref u1)])) rfl (by rw [hml]; rfl) (argsL := [(.int 63)]) (rest := [(.ref u1)]) (lenOf pd_1 rfl) rfl (by show 2 * 0 + _ ≤ _; exact Nat.le_of_eq rfl) (hb hby d9_4) (fun _ _ => ⟨rfl, e0, (by decide : 0 + 0 ≤ _), (by decide : 0 + 0 ≤ _)⟩)
  dsimp only [Pt.U, Pt.locs, Pt.cells, Pt.slots] at X1 l1 y1 z1 st1 hQ1
  subst l1 y1 z1
  obtain ⟨rfl, N1q, e1⟩ := hQ1
  have N1 := Fr.app N0 N1q
  obtain ⟨T2, h2, e2x, X2, e2, E2, A2, st2⟩ := newP X1 hx hZ (tw hw 73 rfl) e1 (g := (mkF m 9 #[rv u1, iv 64] [(.int 1), (.ref u1)])) rfl (hb hby d9_9) rfl (by decide) (cap := 1) (by decide) (by decide) (by decide) (by decide)
  obtain ⟨e1x, g2⟩ : ∃ z, z = h0.size := ⟨_, rfl⟩
  rw [← g2] at A2 st2
  have K2 : Keep h0 h2 [u1] := (Keep.refl h0 [u1]).ext E2
  have V2 : Arv Z h2 e1x e2x .long (1 : Int32) [(.long 0)] (.long (0 : Int64)) := (Arv.new A2 (by decide)).pad (pad_rep [] (.long (0 : Int64)) 1)
  have F1_3 : Exa Z h2 u1 "java/util/BitSet" := P1.ext E2
  have F1_4 : Fld Z h2 u1 "java/util/BitSet" "wordsInUse" "I" (.int 0) := P2.ext E2
  have F1_5 : Fld Z h2 u1 "java/util/BitSet" "sizeIsSticky" "Z" (.int 0) := P3.ext E2
  have F1_6 : Fld Z h2 u1 "java/util/BitSet" "words" "[J" .null := P4.ext E2
  obtain ⟨T7, h7, X7, e7, W7, st7⟩ := putF X2 hx hZ hown (host := "") (Or.inl (tw hw 74 rfl)) Via.refl e2 F1_6 F1_3 (Or.inl (tw hw 75 rfl)) (tw hw 55 rfl) (ty := (.array .long)) (by decide) rfl rfl (g := (mkF m 11 #[rv u1, iv 64] [(.ref e1x), (.ref u1)])) rfl rfl (hb hby d9_11)
  have K7 : Keep h0 h7 [u1] := K2.wr W7 (Or.inl (List.mem_of_getElem? (i := 0) rfl))
  have N7 := Fr.snoc X7 N1 P5
  have Fw7 : Fld Z h7 u1 "java/util/BitSet" "words" "[J" (.ref e1x) := F1_6.same W7
  have F2_8 : Exa Z h7 u1 "java/util/BitSet" := F1_3.wr W7
  have F2_9 : Fld Z h7 u1 "java/util/BitSet" "wordsInUse" "I" (.int 0) := F1_4.other W7 (Or.inr (slot_ne (Or.inl (tw hw 62 rfl)) (Or.inl (tw hw 75 rfl)) (by decide) (t := .int) (t' := (.array .long)) (by decide) (by decide)))
  have F2_10 : Fld Z h7 u1 "java/util/BitSet" "sizeIsSticky" "Z" (.int 0) := F1_5.other W7 (Or.inr (slot_ne (Or.inl (tw hw 64 rfl)) (Or.inl (tw hw 75 rfl)) (by decide) (t := .boolean) (t' := (.array .long)) (by decide) (by decide)))
  have F2_11 : Arv Z h7 e1x e2x .long (1 : Int32) [(.long 0)] (.long (0 : Int64)) := V2.other W7 (Ne.symm (Nat.ne_of_lt (Nat.lt_of_lt_of_le P6 (Nat.le_of_eq g2.symm))))
  have sz0_b5 : h0.size ≤ e1x := Nat.le_trans (Keep.refl h0 [u1]).1 (Nat.le_of_eq g2.symm)
  obtain ⟨fs, hr, hrun, hended, hW, hsame⟩ := X7.leave (v := none) (fun _ => rfl)
  refine ⟨_, _, pre0 _ ?_, hrun, hended, _, _, rfl, ?_, ⟨_, rfl⟩, hW, hsame.mono (by decide) (by decide)⟩
  · show SF p e below s₁ (mkF m 0 #[rv u1, iv 64] []) _
    refine XS.aloadN X0.here hx rfl (hb hby d9_0) rfl rfl ?_
    show SF p e below s₁ (mkF m 1 #[rv u1, iv 64] [(.ref u1)]) _
    refine XS.iloadN X0.here hx rfl (hb hby d9_1) rfl ?_
    show SF p e below s₁ (mkF m 2 #[rv u1, iv 64] [(.int 64), (.ref u1)]) _
    refine XS.iconst X0.here hx rfl (hb hby d9_2) ?_
    show SF p e below s₁ (mkF m 3 #[rv u1, iv 64] [(.int 1), (.int 64), (.ref u1)]) _
    refine XS.isub X0.here hx rfl (hb hby d9_3) rfl ?_
    show SF p e below s₁ (mkF m 4 #[rv u1, iv 64] [(.int ((64 : Int32) - (1 : Int32))), (.ref u1)]) _
    rw [show ((64 : Int32) - (1 : Int32)) = (63 : Int32) from by decide]
    show SF p e below s₁ (mkF m 4 #[rv u1, iv 64] [(.int 63), (.ref u1)]) _
    refine st1 _ ?_
    show SF p e below T1 (mkF m 7 #[rv u1, iv 64] [(.int 0), (.ref u1)]) _
    refine XS.iconst X1.here hx rfl (hb hby d9_7) ?_
    show SF p e below T1 (mkF m 8 #[rv u1, iv 64] [(.int 1), (.int 0), (.ref u1)]) _
    refine XS.iadd X1.here hx rfl (hb hby d9_8) rfl ?_
    show SF p e below T1 (mkF m 9 #[rv u1, iv 64] [(.int ((0 : Int32) + (1 : Int32))), (.ref u1)]) _
    rw [show ((0 : Int32) + (1 : Int32)) = (1 : Int32) from by decide]
    show SF p e below T1 (mkF m 9 #[rv u1, iv 64] [(.int 1), (.ref u1)]) _
    refine st2 _ ?_
    show SF p e below T2 (mkF m 11 #[rv u1, iv 64] [(.ref e1x), (.ref u1)]) _
    refine st7 _ ?_
    show SF p e below T7 (mkF m 14 #[rv u1, iv 64] []) _
    exact X7.returnOut hx Bd.returns (hb hby d9_14) hr
  · show Q9_7 Z u1 h0 n0 _ T7.heap _
    rw [e7]
    exact ⟨e1x, e2x, sz0_b5, rfl, N7, K7, F2_8, F2_9, F2_10, Fw7, F2_11⟩
theorem pd_2 : parseMethodDescriptor "(I)V" = some ⟨[.int], none⟩ := by decide +kernel
theorem d8_20 : decode jdk_92_method_4_code 20 = .ok (.aload_n 0, 1) := by decide +kernel
theorem d8_21 : decode jdk_92_method_4_code 21 = .ok (.iconst 0, 1) := by decide +kernel
theorem d8_22 : decode jdk_92_method_4_code 22 = .ok (.putfield 24, 3) := by decide +kernel
theorem d8_25 : decode jdk_92_method_4_code 25 = .ok (.return_, 1) := by decide +kernel
theorem ef_7 (m : MethodId) (x0 : Addr) : entryFrame m #[(.ref x0)] 1 = mkF m 0 #[.val (.ref x0)] [] := by first | (simp [entryFrame, mkF, argsToLocals, Value.category]; done) | rfl
-- BitSet.init 
def Q8_8 (Z : State) (u1 : Addr) (h0 : Heap) (n0 : Nat) (v : Option Value) (h : Heap) (L : List Loc) : Prop := ∃ e1x : Addr, ∃ e2x : ClassId, h0.size ≤ e1x ∧ v = none ∧ Fr n0 L ∧ Keep h0 h [u1] ∧ Exa Z h u1 "java/util/BitSet" ∧ Fld Z h u1 "java/util/BitSet" "wordsInUse" "I" (.int 0) ∧ Fld Z h u1 "java/util/BitSet" "sizeIsSticky" "Z" (.int 0) ∧ Fld Z h u1 "java/util/BitSet" "words" "[J" (.ref e1x) ∧ Arv Z h e1x e2x .long (1 : Int32) [(.long 0)] (.long (0 : Int64))
set_option maxRecDepth 65536 in
set_option maxHeartbeats 40000000 in
theorem rm8_8 (l : Launch) (Z : State) (a0 : Array Value) (hw : HW Z a0) (ws : List Jvm.Cond) (u1 : Addr) (h0 : Heap) (n0 : Nat) (Z0 : n0 ≤ h0.size) (P1 : Exa Z h0 u1 "java/util/BitSet") (P2 : Fld Z h0 u1 "java/util/BitSet" "wordsInUse" "I" (.int 0)) (P3 : Fld Z h0 u1 "java/util/BitSet" "sizeIsSticky" "Z" (.int 0)) (P4 : Fld Z h0 u1 "java/util/BitSet" "words" "[J" .null) (P5 : n0 ≤ u1) (P6 : u1 < h0.size) :
    MF l Z (⟨"java/util/BitSet", "<init>", "()V"⟩ : MethodName) (Jvm.Cond.code (⟨"java/util/BitSet", "<init>", "()V"⟩ : MethodName) jdk_92_method_4_code 1 none) ws ({ frames := 2, cells := 1, slots := 1, locals := 26 } : Room) #[(.ref u1)] h0 (Q8_8 Z u1 h0 n0) := by
  refine MetFree.of_bodySF (plainFor_of_name pn_5) hisR ?_
  intro p e s m args below meth c s₁ Bd hml0 hP hK
  obtain ⟨rfl, hZ, hh⟩ := hP
  have hx := Bd.exec
  have hby := Bd.bytes
  have hml : c.maxLocals = 1 := hml0
  have hown : s.vm.findClass "java/util/BitSet" = some m.cls := findClass_of_methodNamed Bd.named
  have hnm := (name_of_methodNamed Bd.named Bd.method).1
  have X0 : Stand p l e ({ frames := 2, cells := 1, slots := 1, locals := 26 } : Room) s m #[(.ref u1)] below meth c s₁ [] 0 0 := Stand.of_body Bd
  have e0 : s₁.heap = h0 := by rw [← hh, Bd.state]; rfl
  have N0 := Fr.nil n0
  have pre0 : ∀ t, SF p e below s₁ (mkF m 0 #[rv u1] []) t → SF p e below s₁ (entryFrame m #[(.ref u1)] 1) t := fun t k => castTop (ef_7 m u1) k
  obtain ⟨T1, X1, e1, st1⟩ := initO X0 hx hZ hown (tw hw 60 rfl) (tw hw 8 rfl) (tw hw 9 rfl) e0 (g := (mkF m 1 #[rv u1] [(.ref u1)])) rfl (by rw [hml]; rfl) rfl (hb hby d8_1) (by decide) (W := 0) (by show 2 * 0 + _ ≤ _; exact Nat.le_of_eq rfl) (by decide)
  obtain ⟨T2, h2, X2, e2, W2, st2⟩ := putF X1 hx hZ hown (host := "") (Or.inl (tw hw 61 rfl)) Via.refl e1 P2 P1 (Or.inl (tw hw 62 rfl)) (tw hw 55 rfl) (ty := .int) (by decide) rfl rfl (g := (mkF m 6 #[rv u1] [(.int 0), (.ref u1)])) rfl rfl (hb hby d8_6)
  have K2 : Keep h0 h2 [u1] := (Keep.refl h0 [u1]).wr W2 (Or.inl (List.mem_of_getElem? (i := 0) rfl))
  have N2 := Fr.snoc X2 N0 P5
  have Fw2 : Fld Z h2 u1 "java/util/BitSet" "wordsInUse" "I" (.int 0) := P2.same W2
  have F1_3 : Exa Z h2 u1 "java/util/BitSet" := P1.wr W2
  have F1_4 : Fld Z h2 u1 "java/util/BitSet" "sizeIsSticky" "Z" (.int 0) := P3.other W2 (Or.inr (slot_ne (Or.inl (tw hw 64 rfl)) (Or.inl (tw hw 62 rfl)) (by decide) (t := .boolean) (t' := .int) (by decide) (by decide)))
  have F1_5 : Fld Z h2 u1 "java/util/BitSet" "words" "[J" .null := P4.other W2 (Or.inr (slot_ne (Or.inl (tw hw 75 rfl)) (Or.inl (tw hw 62 rfl)) (by decide) (t := (.array .long)) (t' := .int) (by decide) (by decide)))
  obtain ⟨T6, h6, X6, e6, W6, st6⟩ := putFN X2 hx hZ hown (tw hw 63 rfl) Via.refl e2 F1_4 F1_3 (Or.inl (tw hw 64 rfl)) (tw hw 55 rfl) (ty := .boolean) (v' := (.int 0)) (by decide) (by decide) (by decide) (g := (mkF m 11 #[rv u1] [(.int 0), (.ref u1)])) rfl rfl (hb hby d8_11)
  have K6 : Keep h0 h6 [u1] := K2.wr W6 (Or.inl (List.mem_of_getElem? (i := 0) rfl))
  have N6 := Fr.snoc X6 N2 P5
  have Fw6 : Fld Z h6 u1 "java/util/BitSet" "sizeIsSticky" "Z" (.int 0) := F1_4.same W6
  have F2_7 : Exa Z h6 u1 "java/util/BitSet" := F1_3.wr W6
  have F2_9 : Fld Z h6 u1 "java/util/BitSet" "wordsInUse" "I" (.int 0) := Fw2.other W6 (Or.inr (slot_ne (Or.inl (tw hw 62 rfl)) (Or.inl (tw hw 64 rfl)) (by decide) (t := .int) (t' := .boolean) (by decide) (by decide)))
  have F2_10 : Fld Z h6 u1 "java/util/BitSet" "words" "[J" .null := F1_5.other W6 (Or.inr (slot_ne (Or.inl (tw hw 75 rfl)) (Or.inl (tw hw 64 rfl)) (by decide) (t := (.array .long)) (t' := .boolean) (by decide) (by decide)))
  have lt_b4_1 : u1 < h2.size := Nat.lt_of_lt_of_le P6 (Keep.of_wr W2).1
  have lt_b4_2 : u1 < h6.size := Nat.lt_of_lt_of_le lt_b4_1 (Keep.of_wr W6).1
  have Z2 : n0 ≤ h2.size := Nat.le_trans Z0 (Keep.of_wr W2).1
  have Z6 : n0 ≤ h6.size := Nat.le_trans Z2 (Keep.of_wr W6).1
  obtain ⟨cq8, q8, q8'⟩ := F2_7.cell
  obtain ⟨_, _, ⟨T8, L8, k8x, n8⟩, -, X8, ⟨Lc8, hQ8, l8, y8, z8⟩, st8⟩ := X6.privateBack hx (y := (⟨"java/util/BitSet", "initWords", "(I)V"⟩ : MethodName)) hown (mvT hZ (tw hw 65 rfl)) (mvT hZ (tw hw 66 rfl)) (mvT hZ (tw hw 68 rfl)) (Cond.privateMethod_at (mvP hZ (tw hw 67 rfl) (args := #[]))) (mvT hZ (tw hw 69 rfl)) (by decide) (backOf (W := 0) (rm9_7 l Z a0 hw [] u1 h6 n0 Z6 F2_7 F2_9 Fw6 F2_10 P5 lt_b4_2) hZ (tw hw 69 rfl) (tw hw 56 rfl) (by decide) (by decide)) (g := (mkF m 17 #[rv u1] [(.int 64), (.ref u1)])) rfl (by rw [hml]; rfl) (Steps.refl _) (a := u1) (by rw [e6]; exact q8) q8' (argsL := [(.int 64)]) (rest := []) (lenOf pd_2 rfl) rfl (by show 2 * 0 + _ ≤ _; exact Nat.le_of_eq rfl) (hb hby d8_17) (fun _ _ => ⟨rfl, e6, (by decide : 0 + 1 ≤ _), (by decide : 0 + 1 ≤ _)⟩)
  dsimp only [Pt.U, Pt.locs, Pt.cells, Pt.slots] at X8 l8 y8 z8 st8 hQ8
  subst l8 y8 z8
  obtain ⟨e1x, e2x, bz_b6, rfl, N8q, K8c, Fq8_0, Fq8_1, Fq8_2, Fq8_3, Fq8_4⟩ := hQ8
  have K8 : Keep h0 T8.heap [u1] := K6.trans K8c (allS (Or.inl (List.mem_of_getElem? (i := 0) rfl)) all0)
  have N8 := Fr.app N6 N8q
  obtain ⟨T11, h11, X11, e11, W11, st11⟩ := putFN X8 hx hZ hown (tw hw 63 rfl) Via.refl rfl Fq8_2 Fq8_0 (Or.inl (tw hw 64 rfl)) (tw hw 55 rfl) (ty := .boolean) (v' := (.int 0)) (by decide) (by decide) (by decide) (g := (mkF m 22 #[rv u1] [(.int 0), (.ref u1)])) rfl rfl (hb hby d8_22)
  have K11 : Keep h0 h11 [u1] := K8.wr W11 (Or.inl (List.mem_of_getElem? (i := 0) rfl))
  have N11 := Fr.snoc X11 N8 P5
  have Fw11 : Fld Z h11 u1 "java/util/BitSet" "sizeIsSticky" "Z" (.int 0) := Fq8_2.same W11
  have F4_12 : Exa Z h11 u1 "java/util/BitSet" := Fq8_0.wr W11
  have F4_13 : Fld Z h11 u1 "java/util/BitSet" "wordsInUse" "I" (.int 0) := Fq8_1.other W11 (Or.inr (slot_ne (Or.inl (tw hw 62 rfl)) (Or.inl (tw hw 64 rfl)) (by decide) (t := .int) (t' := .boolean) (by decide) (by decide)))
  have F4_14 : Fld Z h11 u1 "java/util/BitSet" "words" "[J" (.ref e1x) := Fq8_3.other W11 (Or.inr (slot_ne (Or.inl (tw hw 75 rfl)) (Or.inl (tw hw 64 rfl)) (by decide) (t := (.array .long)) (t' := .boolean) (by decide) (by decide)))
  have F4_15 : Arv Z h11 e1x e2x .long (1 : Int32) [(.long 0)] (.long (0 : Int64)) := Fq8_4.other W11 (Ne.symm (Nat.ne_of_lt (Nat.lt_of_lt_of_le lt_b4_2 bz_b6)))
  have sz0_b6 : h0.size ≤ e1x := Nat.le_trans K6.1 bz_b6
  obtain ⟨fs, hr, hrun, hended, hW, hsame⟩ := X11.leave (v := none) (fun _ => rfl)
  refine ⟨_, _, pre0 _ ?_, hrun, hended, _, _, rfl, ?_, ⟨_, rfl⟩, hW, hsame.mono (by decide) (by decide)⟩
  · show SF p e below s₁ (mkF m 0 #[rv u1] []) _
    refine XS.aloadN X0.here hx rfl (hb hby d8_0) rfl rfl ?_
    show SF p e below s₁ (mkF m 1 #[rv u1] [(.ref u1)]) _
    refine st1 _ ?_
    show SF p e below T1 (mkF m 4 #[rv u1] []) _
    refine XS.aloadN X1.here hx rfl (hb hby d8_4) rfl rfl ?_
    show SF p e below T1 (mkF m 5 #[rv u1] [(.ref u1)]) _
    refine XS.iconst X1.here hx rfl (hb hby d8_5) ?_
    show SF p e below T1 (mkF m 6 #[rv u1] [(.int 0), (.ref u1)]) _
    refine st2 _ ?_
    show SF p e below T2 (mkF m 9 #[rv u1] []) _
    refine XS.aloadN X2.here hx rfl (hb hby d8_9) rfl rfl ?_
    show SF p e below T2 (mkF m 10 #[rv u1] [(.ref u1)]) _
    refine XS.iconst X2.here hx rfl (hb hby d8_10) ?_
    show SF p e below T2 (mkF m 11 #[rv u1] [(.int 0), (.ref u1)]) _
    refine st6 _ ?_
    show SF p e below T6 (mkF m 14 #[rv u1] []) _
    refine XS.aloadN X6.here hx rfl (hb hby d8_14) rfl rfl ?_
    show SF p e below T6 (mkF m 15 #[rv u1] [(.ref u1)]) _
    refine XS.bipush X6.here hx rfl (hb hby d8_15) ?_
    show SF p e below T6 (mkF m 17 #[rv u1] [(.int 64), (.ref u1)]) _
    refine st8.trans ?_
    show SF p e below T8 (mkF m 20 #[rv u1] []) _
    refine XS.aloadN X8.here hx rfl (hb hby d8_20) rfl rfl ?_
    show SF p e below T8 (mkF m 21 #[rv u1] [(.ref u1)]) _
    refine XS.iconst X8.here hx rfl (hb hby d8_21) ?_
    show SF p e below T8 (mkF m 22 #[rv u1] [(.int 0), (.ref u1)]) _
    refine st11 _ ?_
    show SF p e below T11 (mkF m 25 #[rv u1] []) _
    exact X11.returnOut hx Bd.returns (hb hby d8_25) hr
  · show Q8_8 Z u1 h0 n0 _ T11.heap _
    rw [e11]
    exact ⟨e1x, e2x, sz0_b6, rfl, N11, K11, F4_12, F4_13, Fw11, F4_14, F4_15⟩
theorem d1_34 : decode prog_10_method_1_code 34 = .ok (.putfield 26, 3) := by decide +kernel
theorem d1_37 : decode prog_10_method_1_code 37 = .ok (.aload_n 0, 1) := by decide +kernel
theorem d1_38 : decode prog_10_method_1_code 38 = .ok (.new 23, 3) := by decide +kernel
theorem d1_41 : decode prog_10_method_1_code 41 = .ok (.dup, 1) := by decide +kernel
theorem d1_42 : decode prog_10_method_1_code 42 = .ok (.invokespecial 25, 3) := by decide +kernel
-- BitSet.initWords 
def Q9_9 (Z : State) (u1 : Addr) (h0 : Heap) (n0 : Nat) (v : Option Value) (h : Heap) (L : List Loc) : Prop := ∃ e1x : Addr, ∃ e2x : ClassId, h0.size ≤ e1x ∧ v = none ∧ Fr n0 L ∧ Keep h0 h [u1] ∧ Exa Z h u1 "java/util/BitSet" ∧ Fld Z h u1 "java/util/BitSet" "wordsInUse" "I" (.int 0) ∧ Fld Z h u1 "java/util/BitSet" "sizeIsSticky" "Z" (.int 0) ∧ Fld Z h u1 "java/util/BitSet" "words" "[J" (.ref e1x) ∧ Arv Z h e1x e2x .long (1 : Int32) [(.long 0)] (.long (0 : Int64))
set_option maxRecDepth 65536 in
set_option maxHeartbeats 40000000 in
theorem rm9_9 (l : Launch) (Z : State) (a0 : Array Value) (hw : HW Z a0) (ws : List Jvm.Cond) (u1 : Addr) (h0 : Heap) (n0 : Nat) (Z0 : n0 ≤ h0.size) (P1 : Exa Z h0 u1 "java/util/BitSet") (P2 : Fld Z h0 u1 "java/util/BitSet" "wordsInUse" "I" (.int 0)) (P3 : Fld Z h0 u1 "java/util/BitSet" "sizeIsSticky" "Z" (.int 0)) (P4 : Fld Z h0 u1 "java/util/BitSet" "words" "[J" .null) (P5 : n0 ≤ u1) (P6 : u1 < h0.size) :
    MF l Z (⟨"java/util/BitSet", "initWords", "(I)V"⟩ : MethodName) (Jvm.Cond.code (⟨"java/util/BitSet", "initWords", "(I)V"⟩ : MethodName) jdk_92_method_6_code 2 none) ws ({ frames := 1, cells := 1, slots := 1, locals := 13 } : Room) #[(.ref u1), (.int 64)] h0 (Q9_9 Z u1 h0 n0) := by
  refine MetFree.of_bodySF (plainFor_of_name pn_5) hisR ?_
  intro p e s m args below meth c s₁ Bd hml0 hP hK
  obtain ⟨rfl, hZ, hh⟩ := hP
  have hx := Bd.exec
  have hby := Bd.bytes
  have hml : c.maxLocals = 2 := hml0
  have hown : s.vm.findClass "java/util/BitSet" = some m.cls := findClass_of_methodNamed Bd.named
  have hnm := (name_of_methodNamed Bd.named Bd.method).1
  have X0 : Stand p l e ({ frames := 1, cells := 1, slots := 1, locals := 13 } : Room) s m #[(.ref u1), (.int 64)] below meth c s₁ [] 0 0 := Stand.of_body Bd
  have e0 : s₁.heap = h0 := by rw [← hh, Bd.state]; rfl
  have N0 := Fr.nil n0
  have pre0 : ∀ t, SF p e below s₁ (mkF m 0 #[rv u1, iv 64] []) t → SF p e below s₁ (entryFrame m #[(.ref u1), (.int 64)] 2) t := fun t k => castTop (ef_6 m u1 (64 : Int32)) k
  obtain ⟨_, _, ⟨T1, L1, k1x, n1⟩, -, X1, ⟨Lc1, hQ1, l1, y1, z1⟩, st1⟩ := Jvm.LawKit.callS X0 hx (y := (⟨"java/util/BitSet", "wordIndex", "(I)I"⟩ : MethodName)) hown (mvT hZ (tw hw 70 rfl)) (mvT hZ (tw hw 71 rfl)) (mvT hZ (tw hw 56 rfl)) (mvT hZ (tw hw 72 rfl)) (by decide) (backOf (W := 1) (rm10_6 l Z a0 hw []  h0 n0 Z0 ) hZ (tw hw 72 rfl) (tw hw 56 rfl) (by decide) (by decide)) (g := (mkF m 4 #[rv u1, iv 64] [(.int 63), (.ref u1)])) rfl (by rw [hml]; rfl) (argsL := [(.int 63)]) (rest := [(.ref u1)]) (lenOf pd_1 rfl) rfl (by show 2 * 0 + _ ≤ _; exact Nat.le_of_eq rfl) (hb hby d9_4) (fun _ _ => ⟨rfl, e0, (by decide : 0 + 0 ≤ _), (by decide : 0 + 0 ≤ _)⟩)
  dsimp only [Pt.U, Pt.locs, Pt.cells, Pt.slots] at X1 l1 y1 z1 st1 hQ1
  subst l1 y1 z1
  obtain ⟨rfl, N1q, e1⟩ := hQ1
  have N1 := Fr.app N0 N1q
  obtain ⟨T2, h2, e2x, X2, e2, E2, A2, st2⟩ := newP X1 hx hZ (tw hw 73 rfl) e1 (g := (mkF m 9 #[rv u1, iv 64] [(.int 1), (.ref u1)])) rfl (hb hby d9_9) rfl (by decide) (cap := 1) (by decide) (by decide) (by decide) (by decide)
  obtain ⟨e1x, g2⟩ : ∃ z, z = h0.size := ⟨_, rfl⟩
  rw [← g2] at A2 st2
  have K2 : Keep h0 h2 [u1] := (Keep.refl h0 [u1]).ext E2
  have V2 : Arv Z h2 e1x e2x .long (1 : Int32) [(.long 0)] (.long (0 : Int64)) := (Arv.new A2 (by decide)).pad (pad_rep [] (.long (0 : Int64)) 1)
  have F1_3 : Exa Z h2 u1 "java/util/BitSet" := P1.ext E2
  have F1_4 : Fld Z h2 u1 "java/util/BitSet" "wordsInUse" "I" (.int 0) := P2.ext E2
  have F1_5 : Fld Z h2 u1 "java/util/BitSet" "sizeIsSticky" "Z" (.int 0) := P3.ext E2
  have F1_6 : Fld Z h2 u1 "java/util/BitSet" "words" "[J" .null := P4.ext E2
  obtain ⟨T7, h7, X7, e7, W7, st7⟩ := putF X2 hx hZ hown (host := "") (Or.inl (tw hw 74 rfl)) Via.refl e2 F1_6 F1_3 (Or.inl (tw hw 75 rfl)) (tw hw 55 rfl) (ty := (.array .long)) (by decide) rfl rfl (g := (mkF m 11 #[rv u1, iv 64] [(.ref e1x), (.ref u1)])) rfl rfl (hb hby d9_11)
  have K7 : Keep h0 h7 [u1] := K2.wr W7 (Or.inl (List.mem_of_getElem? (i := 0) rfl))
  have N7 := Fr.snoc X7 N1 P5
  have Fw7 : Fld Z h7 u1 "java/util/BitSet" "words" "[J" (.ref e1x) := F1_6.same W7
  have F2_8 : Exa Z h7 u1 "java/util/BitSet" := F1_3.wr W7
  have F2_9 : Fld Z h7 u1 "java/util/BitSet" "wordsInUse" "I" (.int 0) := F1_4.other W7 (Or.inr (slot_ne (Or.inl (tw hw 62 rfl)) (Or.inl (tw hw 75 rfl)) (by decide) (t := .int) (t' := (.array .long)) (by decide) (by decide)))
  have F2_10 : Fld Z h7 u1 "java/util/BitSet" "sizeIsSticky" "Z" (.int 0) := F1_5.other W7 (Or.inr (slot_ne (Or.inl (tw hw 64 rfl)) (Or.inl (tw hw 75 rfl)) (by decide) (t := .boolean) (t' := (.array .long)) (by decide) (by decide)))
  have F2_11 : Arv Z h7 e1x e2x .long (1 : Int32) [(.long 0)] (.long (0 : Int64)) := V2.other W7 (Ne.symm (Nat.ne_of_lt (Nat.lt_of_lt_of_le P6 (Nat.le_of_eq g2.symm))))
  have sz0_b11 : h0.size ≤ e1x := Nat.le_trans (Keep.refl h0 [u1]).1 (Nat.le_of_eq g2.symm)
  obtain ⟨fs, hr, hrun, hended, hW, hsame⟩ := X7.leave (v := none) (fun _ => rfl)
  refine ⟨_, _, pre0 _ ?_, hrun, hended, _, _, rfl, ?_, ⟨_, rfl⟩, hW, hsame.mono (by decide) (by decide)⟩
  · show SF p e below s₁ (mkF m 0 #[rv u1, iv 64] []) _
    refine XS.aloadN X0.here hx rfl (hb hby d9_0) rfl rfl ?_
    show SF p e below s₁ (mkF m 1 #[rv u1, iv 64] [(.ref u1)]) _
    refine XS.iloadN X0.here hx rfl (hb hby d9_1) rfl ?_
    show SF p e below s₁ (mkF m 2 #[rv u1, iv 64] [(.int 64), (.ref u1)]) _
    refine XS.iconst X0.here hx rfl (hb hby d9_2) ?_
    show SF p e below s₁ (mkF m 3 #[rv u1, iv 64] [(.int 1), (.int 64), (.ref u1)]) _
    refine XS.isub X0.here hx rfl (hb hby d9_3) rfl ?_
    show SF p e below s₁ (mkF m 4 #[rv u1, iv 64] [(.int ((64 : Int32) - (1 : Int32))), (.ref u1)]) _
    rw [show ((64 : Int32) - (1 : Int32)) = (63 : Int32) from by decide]
    show SF p e below s₁ (mkF m 4 #[rv u1, iv 64] [(.int 63), (.ref u1)]) _
    refine st1 _ ?_
    show SF p e below T1 (mkF m 7 #[rv u1, iv 64] [(.int 0), (.ref u1)]) _
    refine XS.iconst X1.here hx rfl (hb hby d9_7) ?_
    show SF p e below T1 (mkF m 8 #[rv u1, iv 64] [(.int 1), (.int 0), (.ref u1)]) _
    refine XS.iadd X1.here hx rfl (hb hby d9_8) rfl ?_
    show SF p e below T1 (mkF m 9 #[rv u1, iv 64] [(.int ((0 : Int32) + (1 : Int32))), (.ref u1)]) _
    rw [show ((0 : Int32) + (1 : Int32)) = (1 : Int32) from by decide]
    show SF p e below T1 (mkF m 9 #[rv u1, iv 64] [(.int 1), (.ref u1)]) _
    refine st2 _ ?_
    show SF p e below T2 (mkF m 11 #[rv u1, iv 64] [(.ref e1x), (.ref u1)]) _
    refine st7 _ ?_
    show SF p e below T7 (mkF m 14 #[rv u1, iv 64] []) _
    exact X7.returnOut hx Bd.returns (hb hby d9_14) hr
  · show Q9_9 Z u1 h0 n0 _ T7.heap _
    rw [e7]
    exact ⟨e1x, e2x, sz0_b11, rfl, N7, K7, F2_8, F2_9, F2_10, Fw7, F2_11⟩
-- BitSet.init 
def Q8_10 (Z : State) (u1 : Addr) (h0 : Heap) (n0 : Nat) (v : Option Value) (h : Heap) (L : List Loc) : Prop := ∃ e1x : Addr, ∃ e2x : ClassId, h0.size ≤ e1x ∧ v = none ∧ Fr n0 L ∧ Keep h0 h [u1] ∧ Exa Z h u1 "java/util/BitSet" ∧ Fld Z h u1 "java/util/BitSet" "wordsInUse" "I" (.int 0) ∧ Fld Z h u1 "java/util/BitSet" "sizeIsSticky" "Z" (.int 0) ∧ Fld Z h u1 "java/util/BitSet" "words" "[J" (.ref e1x) ∧ Arv Z h e1x e2x .long (1 : Int32) [(.long 0)] (.long (0 : Int64))
set_option maxRecDepth 65536 in
set_option maxHeartbeats 40000000 in
theorem rm8_10 (l : Launch) (Z : State) (a0 : Array Value) (hw : HW Z a0) (ws : List Jvm.Cond) (u1 : Addr) (h0 : Heap) (n0 : Nat) (Z0 : n0 ≤ h0.size) (P1 : Exa Z h0 u1 "java/util/BitSet") (P2 : Fld Z h0 u1 "java/util/BitSet" "wordsInUse" "I" (.int 0)) (P3 : Fld Z h0 u1 "java/util/BitSet" "sizeIsSticky" "Z" (.int 0)) (P4 : Fld Z h0 u1 "java/util/BitSet" "words" "[J" .null) (P5 : n0 ≤ u1) (P6 : u1 < h0.size) :
    MF l Z (⟨"java/util/BitSet", "<init>", "()V"⟩ : MethodName) (Jvm.Cond.code (⟨"java/util/BitSet", "<init>", "()V"⟩ : MethodName) jdk_92_method_4_code 1 none) ws ({ frames := 2, cells := 1, slots := 1, locals := 26 } : Room) #[(.ref u1)] h0 (Q8_10 Z u1 h0 n0) := by
  refine MetFree.of_bodySF (plainFor_of_name pn_5) hisR ?_
  intro p e s m args below meth c s₁ Bd hml0 hP hK
  obtain ⟨rfl, hZ, hh⟩ := hP
  have hx := Bd.exec
  have hby := Bd.bytes
  have hml : c.maxLocals = 1 := hml0
  have hown : s.vm.findClass "java/util/BitSet" = some m.cls := findClass_of_methodNamed Bd.named
  have hnm := (name_of_methodNamed Bd.named Bd.method).1
  have X0 : Stand p l e ({ frames := 2, cells := 1, slots := 1, locals := 26 } : Room) s m #[(.ref u1)] below meth c s₁ [] 0 0 := Stand.of_body Bd
  have e0 : s₁.heap = h0 := by rw [← hh, Bd.state]; rfl
  have N0 := Fr.nil n0
  have pre0 : ∀ t, SF p e below s₁ (mkF m 0 #[rv u1] []) t → SF p e below s₁ (entryFrame m #[(.ref u1)] 1) t := fun t k => castTop (ef_7 m u1) k
  obtain ⟨T1, X1, e1, st1⟩ := initO X0 hx hZ hown (tw hw 60 rfl) (tw hw 8 rfl) (tw hw 9 rfl) e0 (g := (mkF m 1 #[rv u1] [(.ref u1)])) rfl (by rw [hml]; rfl) rfl (hb hby d8_1) (by decide) (W := 0) (by show 2 * 0 + _ ≤ _; exact Nat.le_of_eq rfl) (by decide)
  obtain ⟨T2, h2, X2, e2, W2, st2⟩ := putF X1 hx hZ hown (host := "") (Or.inl (tw hw 61 rfl)) Via.refl e1 P2 P1 (Or.inl (tw hw 62 rfl)) (tw hw 55 rfl) (ty := .int) (by decide) rfl rfl (g := (mkF m 6 #[rv u1] [(.int 0), (.ref u1)])) rfl rfl (hb hby d8_6)
  have K2 : Keep h0 h2 [u1] := (Keep.refl h0 [u1]).wr W2 (Or.inl (List.mem_of_getElem? (i := 0) rfl))
  have N2 := Fr.snoc X2 N0 P5
  have Fw2 : Fld Z h2 u1 "java/util/BitSet" "wordsInUse" "I" (.int 0) := P2.same W2
  have F1_3 : Exa Z h2 u1 "java/util/BitSet" := P1.wr W2
  have F1_4 : Fld Z h2 u1 "java/util/BitSet" "sizeIsSticky" "Z" (.int 0) := P3.other W2 (Or.inr (slot_ne (Or.inl (tw hw 64 rfl)) (Or.inl (tw hw 62 rfl)) (by decide) (t := .boolean) (t' := .int) (by decide) (by decide)))
  have F1_5 : Fld Z h2 u1 "java/util/BitSet" "words" "[J" .null := P4.other W2 (Or.inr (slot_ne (Or.inl (tw hw 75 rfl)) (Or.inl (tw hw 62 rfl)) (by decide) (t := (.array .long)) (t' := .int) (by decide) (by decide)))
  obtain ⟨T6, h6, X6, e6, W6, st6⟩ := putFN X2 hx hZ hown (tw hw 63 rfl) Via.refl e2 F1_4 F1_3 (Or.inl (tw hw 64 rfl)) (tw hw 55 rfl) (ty := .boolean) (v' := (.int 0)) (by decide) (by decide) (by decide) (g := (mkF m 11 #[rv u1] [(.int 0), (.ref u1)])) rfl rfl (hb hby d8_11)
  have K6 : Keep h0 h6 [u1] := K2.wr W6 (Or.inl (List.mem_of_getElem? (i := 0) rfl))
  have N6 := Fr.snoc X6 N2 P5
  have Fw6 : Fld Z h6 u1 "java/util/BitSet" "sizeIsSticky" "Z" (.int 0) := F1_4.same W6
  have F2_7 : Exa Z h6 u1 "java/util/BitSet" := F1_3.wr W6
  have F2_9 : Fld Z h6 u1 "java/util/BitSet" "wordsInUse" "I" (.int 0) := Fw2.other W6 (Or.inr (slot_ne (Or.inl (tw hw 62 rfl)) (Or.inl (tw hw 64 rfl)) (by decide) (t := .int) (t' := .boolean) (by decide) (by decide)))
  have F2_10 : Fld Z h6 u1 "java/util/BitSet" "words" "[J" .null := F1_5.other W6 (Or.inr (slot_ne (Or.inl (tw hw 75 rfl)) (Or.inl (tw hw 64 rfl)) (by decide) (t := (.array .long)) (t' := .boolean) (by decide) (by decide)))
  have lt_b10_1 : u1 < h2.size := Nat.lt_of_lt_of_le P6 (Keep.of_wr W2).1
  have lt_b10_2 : u1 < h6.size := Nat.lt_of_lt_of_le lt_b10_1 (Keep.of_wr W6).1
  have Z2 : n0 ≤ h2.size := Nat.le_trans Z0 (Keep.of_wr W2).1
  have Z6 : n0 ≤ h6.size := Nat.le_trans Z2 (Keep.of_wr W6).1
  obtain ⟨cq8, q8, q8'⟩ := F2_7.cell
  obtain ⟨_, _, ⟨T8, L8, k8x, n8⟩, -, X8, ⟨Lc8, hQ8, l8, y8, z8⟩, st8⟩ := X6.privateBack hx (y := (⟨"java/util/BitSet", "initWords", "(I)V"⟩ : MethodName)) hown (mvT hZ (tw hw 65 rfl)) (mvT hZ (tw hw 66 rfl)) (mvT hZ (tw hw 68 rfl)) (Cond.privateMethod_at (mvP hZ (tw hw 67 rfl) (args := #[]))) (mvT hZ (tw hw 69 rfl)) (by decide) (backOf (W := 0) (rm9_9 l Z a0 hw [] u1 h6 n0 Z6 F2_7 F2_9 Fw6 F2_10 P5 lt_b10_2) hZ (tw hw 69 rfl) (tw hw 56 rfl) (by decide) (by decide)) (g := (mkF m 17 #[rv u1] [(.int 64), (.ref u1)])) rfl (by rw [hml]; rfl) (Steps.refl _) (a := u1) (by rw [e6]; exact q8) q8' (argsL := [(.int 64)]) (rest := []) (lenOf pd_2 rfl) rfl (by show 2 * 0 + _ ≤ _; exact Nat.le_of_eq rfl) (hb hby d8_17) (fun _ _ => ⟨rfl, e6, (by decide : 0 + 1 ≤ _), (by decide : 0 + 1 ≤ _)⟩)
  dsimp only [Pt.U, Pt.locs, Pt.cells, Pt.slots] at X8 l8 y8 z8 st8 hQ8
  subst l8 y8 z8
  obtain ⟨e1x, e2x, bz_b12, rfl, N8q, K8c, Fq8_0, Fq8_1, Fq8_2, Fq8_3, Fq8_4⟩ := hQ8
  have K8 : Keep h0 T8.heap [u1] := K6.trans K8c (allS (Or.inl (List.mem_of_getElem? (i := 0) rfl)) all0)
  have N8 := Fr.app N6 N8q
  obtain ⟨T11, h11, X11, e11, W11, st11⟩ := putFN X8 hx hZ hown (tw hw 63 rfl) Via.refl rfl Fq8_2 Fq8_0 (Or.inl (tw hw 64 rfl)) (tw hw 55 rfl) (ty := .boolean) (v' := (.int 0)) (by decide) (by decide) (by decide) (g := (mkF m 22 #[rv u1] [(.int 0), (.ref u1)])) rfl rfl (hb hby d8_22)
  have K11 : Keep h0 h11 [u1] := K8.wr W11 (Or.inl (List.mem_of_getElem? (i := 0) rfl))
  have N11 := Fr.snoc X11 N8 P5
  have Fw11 : Fld Z h11 u1 "java/util/BitSet" "sizeIsSticky" "Z" (.int 0) := Fq8_2.same W11
  have F4_12 : Exa Z h11 u1 "java/util/BitSet" := Fq8_0.wr W11
  have F4_13 : Fld Z h11 u1 "java/util/BitSet" "wordsInUse" "I" (.int 0) := Fq8_1.other W11 (Or.inr (slot_ne (Or.inl (tw hw 62 rfl)) (Or.inl (tw hw 64 rfl)) (by decide) (t := .int) (t' := .boolean) (by decide) (by decide)))
  have F4_14 : Fld Z h11 u1 "java/util/BitSet" "words" "[J" (.ref e1x) := Fq8_3.other W11 (Or.inr (slot_ne (Or.inl (tw hw 75 rfl)) (Or.inl (tw hw 64 rfl)) (by decide) (t := (.array .long)) (t' := .boolean) (by decide) (by decide)))
  have F4_15 : Arv Z h11 e1x e2x .long (1 : Int32) [(.long 0)] (.long (0 : Int64)) := Fq8_4.other W11 (Ne.symm (Nat.ne_of_lt (Nat.lt_of_lt_of_le lt_b10_2 bz_b12)))
  have sz0_b12 : h0.size ≤ e1x := Nat.le_trans K6.1 bz_b12
  obtain ⟨fs, hr, hrun, hended, hW, hsame⟩ := X11.leave (v := none) (fun _ => rfl)
  refine ⟨_, _, pre0 _ ?_, hrun, hended, _, _, rfl, ?_, ⟨_, rfl⟩, hW, hsame.mono (by decide) (by decide)⟩
  · show SF p e below s₁ (mkF m 0 #[rv u1] []) _
    refine XS.aloadN X0.here hx rfl (hb hby d8_0) rfl rfl ?_
    show SF p e below s₁ (mkF m 1 #[rv u1] [(.ref u1)]) _
    refine st1 _ ?_
    show SF p e below T1 (mkF m 4 #[rv u1] []) _
    refine XS.aloadN X1.here hx rfl (hb hby d8_4) rfl rfl ?_
    show SF p e below T1 (mkF m 5 #[rv u1] [(.ref u1)]) _
    refine XS.iconst X1.here hx rfl (hb hby d8_5) ?_
    show SF p e below T1 (mkF m 6 #[rv u1] [(.int 0), (.ref u1)]) _
    refine st2 _ ?_
    show SF p e below T2 (mkF m 9 #[rv u1] []) _
    refine XS.aloadN X2.here hx rfl (hb hby d8_9) rfl rfl ?_
    show SF p e below T2 (mkF m 10 #[rv u1] [(.ref u1)]) _
    refine XS.iconst X2.here hx rfl (hb hby d8_10) ?_
    show SF p e below T2 (mkF m 11 #[rv u1] [(.int 0), (.ref u1)]) _
    refine st6 _ ?_
    show SF p e below T6 (mkF m 14 #[rv u1] []) _
    refine XS.aloadN X6.here hx rfl (hb hby d8_14) rfl rfl ?_
    show SF p e below T6 (mkF m 15 #[rv u1] [(.ref u1)]) _
    refine XS.bipush X6.here hx rfl (hb hby d8_15) ?_
    show SF p e below T6 (mkF m 17 #[rv u1] [(.int 64), (.ref u1)]) _
    refine st8.trans ?_
    show SF p e below T8 (mkF m 20 #[rv u1] []) _
    refine XS.aloadN X8.here hx rfl (hb hby d8_20) rfl rfl ?_
    show SF p e below T8 (mkF m 21 #[rv u1] [(.ref u1)]) _
    refine XS.iconst X8.here hx rfl (hb hby d8_21) ?_
    show SF p e below T8 (mkF m 22 #[rv u1] [(.int 0), (.ref u1)]) _
    refine st11 _ ?_
    show SF p e below T11 (mkF m 25 #[rv u1] []) _
    exact X11.returnOut hx Bd.returns (hb hby d8_25) hr
  · show Q8_10 Z u1 h0 n0 _ T11.heap _
    rw [e11]
    exact ⟨e1x, e2x, sz0_b12, rfl, N11, K11, F4_12, F4_13, Fw11, F4_14, F4_15⟩
theorem d1_45 : decode prog_10_method_1_code 45 = .ok (.putfield 30, 3) := by decide +kernel
theorem d1_48 : decode prog_10_method_1_code 48 = .ok (.aload_n 0, 1) := by decide +kernel
theorem d1_49 : decode prog_10_method_1_code 49 = .ok (.new 23, 3) := by decide +kernel
theorem d1_52 : decode prog_10_method_1_code 52 = .ok (.dup, 1) := by decide +kernel
theorem d1_53 : decode prog_10_method_1_code 53 = .ok (.invokespecial 25, 3) := by decide +kernel
-- BitSet.initWords 
def Q9_11 (Z : State) (u1 : Addr) (h0 : Heap) (n0 : Nat) (v : Option Value) (h : Heap) (L : List Loc) : Prop := ∃ e1x : Addr, ∃ e2x : ClassId, h0.size ≤ e1x ∧ v = none ∧ Fr n0 L ∧ Keep h0 h [u1] ∧ Exa Z h u1 "java/util/BitSet" ∧ Fld Z h u1 "java/util/BitSet" "wordsInUse" "I" (.int 0) ∧ Fld Z h u1 "java/util/BitSet" "sizeIsSticky" "Z" (.int 0) ∧ Fld Z h u1 "java/util/BitSet" "words" "[J" (.ref e1x) ∧ Arv Z h e1x e2x .long (1 : Int32) [(.long 0)] (.long (0 : Int64))
set_option maxRecDepth 65536 in
set_option maxHeartbeats 40000000 in
theorem rm9_11 (l : Launch) (Z : State) (a0 : Array Value) (hw : HW Z a0) (ws : List Jvm.Cond) (u1 : Addr) (h0 : Heap) (n0 : Nat) (Z0 : n0 ≤ h0.size) (P1 : Exa Z h0 u1 "java/util/BitSet") (P2 : Fld Z h0 u1 "java/util/BitSet" "wordsInUse" "I" (.int 0)) (P3 : Fld Z h0 u1 "java/util/BitSet" "sizeIsSticky" "Z" (.int 0)) (P4 : Fld Z h0 u1 "java/util/BitSet" "words" "[J" .null) (P5 : n0 ≤ u1) (P6 : u1 < h0.size) :
    MF l Z (⟨"java/util/BitSet", "initWords", "(I)V"⟩ : MethodName) (Jvm.Cond.code (⟨"java/util/BitSet", "initWords", "(I)V"⟩ : MethodName) jdk_92_method_6_code 2 none) ws ({ frames := 1, cells := 1, slots := 1, locals := 13 } : Room) #[(.ref u1), (.int 64)] h0 (Q9_11 Z u1 h0 n0) := by
  refine MetFree.of_bodySF (plainFor_of_name pn_5) hisR ?_
  intro p e s m args below meth c s₁ Bd hml0 hP hK
  obtain ⟨rfl, hZ, hh⟩ := hP
  have hx := Bd.exec
  have hby := Bd.bytes
  have hml : c.maxLocals = 2 := hml0
  have hown : s.vm.findClass "java/util/BitSet" = some m.cls := findClass_of_methodNamed Bd.named
  have hnm := (name_of_methodNamed Bd.named Bd.method).1
  have X0 : Stand p l e ({ frames := 1, cells := 1, slots := 1, locals := 13 } : Room) s m #[(.ref u1), (.int 64)] below meth c s₁ [] 0 0 := Stand.of_body Bd
  have e0 : s₁.heap = h0 := by rw [← hh, Bd.state]; rfl
  have N0 := Fr.nil n0
  have pre0 : ∀ t, SF p e below s₁ (mkF m 0 #[rv u1, iv 64] []) t → SF p e below s₁ (entryFrame m #[(.ref u1), (.int 64)] 2) t := fun t k => castTop (ef_6 m u1 (64 : Int32)) k
  obtain ⟨_, _, ⟨T1, L1, k1x, n1⟩, -, X1, ⟨Lc1, hQ1, l1, y1, z1⟩, st1⟩ := Jvm.LawKit.callS X0 hx (y := (⟨"java/util/BitSet", "wordIndex", "(I)I"⟩ : MethodName)) hown (mvT hZ (tw hw 70 rfl)) (mvT hZ (tw hw 71 rfl)) (mvT hZ (tw hw 56 rfl)) (mvT hZ (tw hw 72 rfl)) (by decide) (backOf (W := 1) (rm10_6 l Z a0 hw []  h0 n0 Z0 ) hZ (tw hw 72 rfl) (tw hw 56 rfl) (by decide) (by decide)) (g := (mkF m 4 #[rv u1, iv 64] [(.int 63), (.ref u1)])) rfl (by rw [hml]; rfl) (argsL := [(.int 63)]) (rest := [(.ref u1)]) (lenOf pd_1 rfl) rfl (by show 2 * 0 + _ ≤ _; exact Nat.le_of_eq rfl) (hb hby d9_4) (fun _ _ => ⟨rfl, e0, (by decide : 0 + 0 ≤ _), (by decide : 0 + 0 ≤ _)⟩)
  dsimp only [Pt.U, Pt.locs, Pt.cells, Pt.slots] at X1 l1 y1 z1 st1 hQ1
  subst l1 y1 z1
  obtain ⟨rfl, N1q, e1⟩ := hQ1
  have N1 := Fr.app N0 N1q
  obtain ⟨T2, h2, e2x, X2, e2, E2, A2, st2⟩ := newP X1 hx hZ (tw hw 73 rfl) e1 (g := (mkF m 9 #[rv u1, iv 64] [(.int 1), (.ref u1)])) rfl (hb hby d9_9) rfl (by decide) (cap := 1) (by decide) (by decide) (by decide) (by decide)
  obtain ⟨e1x, g2⟩ : ∃ z, z = h0.size := ⟨_, rfl⟩
  rw [← g2] at A2 st2
  have K2 : Keep h0 h2 [u1] := (Keep.refl h0 [u1]).ext E2
  have V2 : Arv Z h2 e1x e2x .long (1 : Int32) [(.long 0)] (.long (0 : Int64)) := (Arv.new A2 (by decide)).pad (pad_rep [] (.long (0 : Int64)) 1)
  have F1_3 : Exa Z h2 u1 "java/util/BitSet" := P1.ext E2
  have F1_4 : Fld Z h2 u1 "java/util/BitSet" "wordsInUse" "I" (.int 0) := P2.ext E2
  have F1_5 : Fld Z h2 u1 "java/util/BitSet" "sizeIsSticky" "Z" (.int 0) := P3.ext E2
  have F1_6 : Fld Z h2 u1 "java/util/BitSet" "words" "[J" .null := P4.ext E2
  obtain ⟨T7, h7, X7, e7, W7, st7⟩ := putF X2 hx hZ hown (host := "") (Or.inl (tw hw 74 rfl)) Via.refl e2 F1_6 F1_3 (Or.inl (tw hw 75 rfl)) (tw hw 55 rfl) (ty := (.array .long)) (by decide) rfl rfl (g := (mkF m 11 #[rv u1, iv 64] [(.ref e1x), (.ref u1)])) rfl rfl (hb hby d9_11)
  have K7 : Keep h0 h7 [u1] := K2.wr W7 (Or.inl (List.mem_of_getElem? (i := 0) rfl))
  have N7 := Fr.snoc X7 N1 P5
  have Fw7 : Fld Z h7 u1 "java/util/BitSet" "words" "[J" (.ref e1x) := F1_6.same W7
  have F2_8 : Exa Z h7 u1 "java/util/BitSet" := F1_3.wr W7
  have F2_9 : Fld Z h7 u1 "java/util/BitSet" "wordsInUse" "I" (.int 0) := F1_4.other W7 (Or.inr (slot_ne (Or.inl (tw hw 62 rfl)) (Or.inl (tw hw 75 rfl)) (by decide) (t := .int) (t' := (.array .long)) (by decide) (by decide)))
  have F2_10 : Fld Z h7 u1 "java/util/BitSet" "sizeIsSticky" "Z" (.int 0) := F1_5.other W7 (Or.inr (slot_ne (Or.inl (tw hw 64 rfl)) (Or.inl (tw hw 75 rfl)) (by decide) (t := .boolean) (t' := (.array .long)) (by decide) (by decide)))
  have F2_11 : Arv Z h7 e1x e2x .long (1 : Int32) [(.long 0)] (.long (0 : Int64)) := V2.other W7 (Ne.symm (Nat.ne_of_lt (Nat.lt_of_lt_of_le P6 (Nat.le_of_eq g2.symm))))
  have sz0_b17 : h0.size ≤ e1x := Nat.le_trans (Keep.refl h0 [u1]).1 (Nat.le_of_eq g2.symm)
  obtain ⟨fs, hr, hrun, hended, hW, hsame⟩ := X7.leave (v := none) (fun _ => rfl)
  refine ⟨_, _, pre0 _ ?_, hrun, hended, _, _, rfl, ?_, ⟨_, rfl⟩, hW, hsame.mono (by decide) (by decide)⟩
  · show SF p e below s₁ (mkF m 0 #[rv u1, iv 64] []) _
    refine XS.aloadN X0.here hx rfl (hb hby d9_0) rfl rfl ?_
    show SF p e below s₁ (mkF m 1 #[rv u1, iv 64] [(.ref u1)]) _
    refine XS.iloadN X0.here hx rfl (hb hby d9_1) rfl ?_
    show SF p e below s₁ (mkF m 2 #[rv u1, iv 64] [(.int 64), (.ref u1)]) _
    refine XS.iconst X0.here hx rfl (hb hby d9_2) ?_
    show SF p e below s₁ (mkF m 3 #[rv u1, iv 64] [(.int 1), (.int 64), (.ref u1)]) _
    refine XS.isub X0.here hx rfl (hb hby d9_3) rfl ?_
    show SF p e below s₁ (mkF m 4 #[rv u1, iv 64] [(.int ((64 : Int32) - (1 : Int32))), (.ref u1)]) _
    rw [show ((64 : Int32) - (1 : Int32)) = (63 : Int32) from by decide]
    show SF p e below s₁ (mkF m 4 #[rv u1, iv 64] [(.int 63), (.ref u1)]) _
    refine st1 _ ?_
    show SF p e below T1 (mkF m 7 #[rv u1, iv 64] [(.int 0), (.ref u1)]) _
    refine XS.iconst X1.here hx rfl (hb hby d9_7) ?_
    show SF p e below T1 (mkF m 8 #[rv u1, iv 64] [(.int 1), (.int 0), (.ref u1)]) _
    refine XS.iadd X1.here hx rfl (hb hby d9_8) rfl ?_
    show SF p e below T1 (mkF m 9 #[rv u1, iv 64] [(.int ((0 : Int32) + (1 : Int32))), (.ref u1)]) _
    rw [show ((0 : Int32) + (1 : Int32)) = (1 : Int32) from by decide]
    show SF p e below T1 (mkF m 9 #[rv u1, iv 64] [(.int 1), (.ref u1)]) _
    refine st2 _ ?_
    show SF p e below T2 (mkF m 11 #[rv u1, iv 64] [(.ref e1x), (.ref u1)]) _
    refine st7 _ ?_
    show SF p e below T7 (mkF m 14 #[rv u1, iv 64] []) _
    exact X7.returnOut hx Bd.returns (hb hby d9_14) hr
  · show Q9_11 Z u1 h0 n0 _ T7.heap _
    rw [e7]
    exact ⟨e1x, e2x, sz0_b17, rfl, N7, K7, F2_8, F2_9, F2_10, Fw7, F2_11⟩
-- BitSet.init 
def Q8_12 (Z : State) (u1 : Addr) (h0 : Heap) (n0 : Nat) (v : Option Value) (h : Heap) (L : List Loc) : Prop := ∃ e1x : Addr, ∃ e2x : ClassId, h0.size ≤ e1x ∧ v = none ∧ Fr n0 L ∧ Keep h0 h [u1] ∧ Exa Z h u1 "java/util/BitSet" ∧ Fld Z h u1 "java/util/BitSet" "wordsInUse" "I" (.int 0) ∧ Fld Z h u1 "java/util/BitSet" "sizeIsSticky" "Z" (.int 0) ∧ Fld Z h u1 "java/util/BitSet" "words" "[J" (.ref e1x) ∧ Arv Z h e1x e2x .long (1 : Int32) [(.long 0)] (.long (0 : Int64))
set_option maxRecDepth 65536 in
set_option maxHeartbeats 40000000 in
theorem rm8_12 (l : Launch) (Z : State) (a0 : Array Value) (hw : HW Z a0) (ws : List Jvm.Cond) (u1 : Addr) (h0 : Heap) (n0 : Nat) (Z0 : n0 ≤ h0.size) (P1 : Exa Z h0 u1 "java/util/BitSet") (P2 : Fld Z h0 u1 "java/util/BitSet" "wordsInUse" "I" (.int 0)) (P3 : Fld Z h0 u1 "java/util/BitSet" "sizeIsSticky" "Z" (.int 0)) (P4 : Fld Z h0 u1 "java/util/BitSet" "words" "[J" .null) (P5 : n0 ≤ u1) (P6 : u1 < h0.size) :
    MF l Z (⟨"java/util/BitSet", "<init>", "()V"⟩ : MethodName) (Jvm.Cond.code (⟨"java/util/BitSet", "<init>", "()V"⟩ : MethodName) jdk_92_method_4_code 1 none) ws ({ frames := 2, cells := 1, slots := 1, locals := 26 } : Room) #[(.ref u1)] h0 (Q8_12 Z u1 h0 n0) := by
  refine MetFree.of_bodySF (plainFor_of_name pn_5) hisR ?_
  intro p e s m args below meth c s₁ Bd hml0 hP hK
  obtain ⟨rfl, hZ, hh⟩ := hP
  have hx := Bd.exec
  have hby := Bd.bytes
  have hml : c.maxLocals = 1 := hml0
  have hown : s.vm.findClass "java/util/BitSet" = some m.cls := findClass_of_methodNamed Bd.named
  have hnm := (name_of_methodNamed Bd.named Bd.method).1
  have X0 : Stand p l e ({ frames := 2, cells := 1, slots := 1, locals := 26 } : Room) s m #[(.ref u1)] below meth c s₁ [] 0 0 := Stand.of_body Bd
  have e0 : s₁.heap = h0 := by rw [← hh, Bd.state]; rfl
  have N0 := Fr.nil n0
  have pre0 : ∀ t, SF p e below s₁ (mkF m 0 #[rv u1] []) t → SF p e below s₁ (entryFrame m #[(.ref u1)] 1) t := fun t k => castTop (ef_7 m u1) k
  obtain ⟨T1, X1, e1, st1⟩ := initO X0 hx hZ hown (tw hw 60 rfl) (tw hw 8 rfl) (tw hw 9 rfl) e0 (g := (mkF m 1 #[rv u1] [(.ref u1)])) rfl (by rw [hml]; rfl) rfl (hb hby d8_1) (by decide) (W := 0) (by show 2 * 0 + _ ≤ _; exact Nat.le_of_eq rfl) (by decide)
  obtain ⟨T2, h2, X2, e2, W2, st2⟩ := putF X1 hx hZ hown (host := "") (Or.inl (tw hw 61 rfl)) Via.refl e1 P2 P1 (Or.inl (tw hw 62 rfl)) (tw hw 55 rfl) (ty := .int) (by decide) rfl rfl (g := (mkF m 6 #[rv u1] [(.int 0), (.ref u1)])) rfl rfl (hb hby d8_6)
  have K2 : Keep h0 h2 [u1] := (Keep.refl h0 [u1]).wr W2 (Or.inl (List.mem_of_getElem? (i := 0) rfl))
  have N2 := Fr.snoc X2 N0 P5
  have Fw2 : Fld Z h2 u1 "java/util/BitSet" "wordsInUse" "I" (.int 0) := P2.same W2
  have F1_3 : Exa Z h2 u1 "java/util/BitSet" := P1.wr W2
  have F1_4 : Fld Z h2 u1 "java/util/BitSet" "sizeIsSticky" "Z" (.int 0) := P3.other W2 (Or.inr (slot_ne (Or.inl (tw hw 64 rfl)) (Or.inl (tw hw 62 rfl)) (by decide) (t := .boolean) (t' := .int) (by decide) (by decide)))
  have F1_5 : Fld Z h2 u1 "java/util/BitSet" "words" "[J" .null := P4.other W2 (Or.inr (slot_ne (Or.inl (tw hw 75 rfl)) (Or.inl (tw hw 62 rfl)) (by decide) (t := (.array .long)) (t' := .int) (by decide) (by decide)))
  obtain ⟨T6, h6, X6, e6, W6, st6⟩ := putFN X2 hx hZ hown (tw hw 63 rfl) Via.refl e2 F1_4 F1_3 (Or.inl (tw hw 64 rfl)) (tw hw 55 rfl) (ty := .boolean) (v' := (.int 0)) (by decide) (by decide) (by decide) (g := (mkF m 11 #[rv u1] [(.int 0), (.ref u1)])) rfl rfl (hb hby d8_11)
  have K6 : Keep h0 h6 [u1] := K2.wr W6 (Or.inl (List.mem_of_getElem? (i := 0) rfl))
  have N6 := Fr.snoc X6 N2 P5
  have Fw6 : Fld Z h6 u1 "java/util/BitSet" "sizeIsSticky" "Z" (.int 0) := F1_4.same W6
  have F2_7 : Exa Z h6 u1 "java/util/BitSet" := F1_3.wr W6
  have F2_9 : Fld Z h6 u1 "java/util/BitSet" "wordsInUse" "I" (.int 0) := Fw2.other W6 (Or.inr (slot_ne (Or.inl (tw hw 62 rfl)) (Or.inl (tw hw 64 rfl)) (by decide) (t := .int) (t' := .boolean) (by decide) (by decide)))
  have F2_10 : Fld Z h6 u1 "java/util/BitSet" "words" "[J" .null := F1_5.other W6 (Or.inr (slot_ne (Or.inl (tw hw 75 rfl)) (Or.inl (tw hw 64 rfl)) (by decide) (t := (.array .long)) (t' := .boolean) (by decide) (by decide)))
  have lt_b16_1 : u1 < h2.size := Nat.lt_of_lt_of_le P6 (Keep.of_wr W2).1
  have lt_b16_2 : u1 < h6.size := Nat.lt_of_lt_of_le lt_b16_1 (Keep.of_wr W6).1
  have Z2 : n0 ≤ h2.size := Nat.le_trans Z0 (Keep.of_wr W2).1
  have Z6 : n0 ≤ h6.size := Nat.le_trans Z2 (Keep.of_wr W6).1
  obtain ⟨cq8, q8, q8'⟩ := F2_7.cell
  obtain ⟨_, _, ⟨T8, L8, k8x, n8⟩, -, X8, ⟨Lc8, hQ8, l8, y8, z8⟩, st8⟩ := X6.privateBack hx (y := (⟨"java/util/BitSet", "initWords", "(I)V"⟩ : MethodName)) hown (mvT hZ (tw hw 65 rfl)) (mvT hZ (tw hw 66 rfl)) (mvT hZ (tw hw 68 rfl)) (Cond.privateMethod_at (mvP hZ (tw hw 67 rfl) (args := #[]))) (mvT hZ (tw hw 69 rfl)) (by decide) (backOf (W := 0) (rm9_11 l Z a0 hw [] u1 h6 n0 Z6 F2_7 F2_9 Fw6 F2_10 P5 lt_b16_2) hZ (tw hw 69 rfl) (tw hw 56 rfl) (by decide) (by decide)) (g := (mkF m 17 #[rv u1] [(.int 64), (.ref u1)])) rfl (by rw [hml]; rfl) (Steps.refl _) (a := u1) (by rw [e6]; exact q8) q8' (argsL := [(.int 64)]) (rest := []) (lenOf pd_2 rfl) rfl (by show 2 * 0 + _ ≤ _; exact Nat.le_of_eq rfl) (hb hby d8_17) (fun _ _ => ⟨rfl, e6, (by decide : 0 + 1 ≤ _), (by decide : 0 + 1 ≤ _)⟩)
  dsimp only [Pt.U, Pt.locs, Pt.cells, Pt.slots] at X8 l8 y8 z8 st8 hQ8
  subst l8 y8 z8
  obtain ⟨e1x, e2x, bz_b18, rfl, N8q, K8c, Fq8_0, Fq8_1, Fq8_2, Fq8_3, Fq8_4⟩ := hQ8
  have K8 : Keep h0 T8.heap [u1] := K6.trans K8c (allS (Or.inl (List.mem_of_getElem? (i := 0) rfl)) all0)
  have N8 := Fr.app N6 N8q
  obtain ⟨T11, h11, X11, e11, W11, st11⟩ := putFN X8 hx hZ hown (tw hw 63 rfl) Via.refl rfl Fq8_2 Fq8_0 (Or.inl (tw hw 64 rfl)) (tw hw 55 rfl) (ty := .boolean) (v' := (.int 0)) (by decide) (by decide) (by decide) (g := (mkF m 22 #[rv u1] [(.int 0), (.ref u1)])) rfl rfl (hb hby d8_22)
  have K11 : Keep h0 h11 [u1] := K8.wr W11 (Or.inl (List.mem_of_getElem? (i := 0) rfl))
  have N11 := Fr.snoc X11 N8 P5
  have Fw11 : Fld Z h11 u1 "java/util/BitSet" "sizeIsSticky" "Z" (.int 0) := Fq8_2.same W11
  have F4_12 : Exa Z h11 u1 "java/util/BitSet" := Fq8_0.wr W11
  have F4_13 : Fld Z h11 u1 "java/util/BitSet" "wordsInUse" "I" (.int 0) := Fq8_1.other W11 (Or.inr (slot_ne (Or.inl (tw hw 62 rfl)) (Or.inl (tw hw 64 rfl)) (by decide) (t := .int) (t' := .boolean) (by decide) (by decide)))
  have F4_14 : Fld Z h11 u1 "java/util/BitSet" "words" "[J" (.ref e1x) := Fq8_3.other W11 (Or.inr (slot_ne (Or.inl (tw hw 75 rfl)) (Or.inl (tw hw 64 rfl)) (by decide) (t := (.array .long)) (t' := .boolean) (by decide) (by decide)))
  have F4_15 : Arv Z h11 e1x e2x .long (1 : Int32) [(.long 0)] (.long (0 : Int64)) := Fq8_4.other W11 (Ne.symm (Nat.ne_of_lt (Nat.lt_of_lt_of_le lt_b16_2 bz_b18)))
  have sz0_b18 : h0.size ≤ e1x := Nat.le_trans K6.1 bz_b18
  obtain ⟨fs, hr, hrun, hended, hW, hsame⟩ := X11.leave (v := none) (fun _ => rfl)
  refine ⟨_, _, pre0 _ ?_, hrun, hended, _, _, rfl, ?_, ⟨_, rfl⟩, hW, hsame.mono (by decide) (by decide)⟩
  · show SF p e below s₁ (mkF m 0 #[rv u1] []) _
    refine XS.aloadN X0.here hx rfl (hb hby d8_0) rfl rfl ?_
    show SF p e below s₁ (mkF m 1 #[rv u1] [(.ref u1)]) _
    refine st1 _ ?_
    show SF p e below T1 (mkF m 4 #[rv u1] []) _
    refine XS.aloadN X1.here hx rfl (hb hby d8_4) rfl rfl ?_
    show SF p e below T1 (mkF m 5 #[rv u1] [(.ref u1)]) _
    refine XS.iconst X1.here hx rfl (hb hby d8_5) ?_
    show SF p e below T1 (mkF m 6 #[rv u1] [(.int 0), (.ref u1)]) _
    refine st2 _ ?_
    show SF p e below T2 (mkF m 9 #[rv u1] []) _
    refine XS.aloadN X2.here hx rfl (hb hby d8_9) rfl rfl ?_
    show SF p e below T2 (mkF m 10 #[rv u1] [(.ref u1)]) _
    refine XS.iconst X2.here hx rfl (hb hby d8_10) ?_
    show SF p e below T2 (mkF m 11 #[rv u1] [(.int 0), (.ref u1)]) _
    refine st6 _ ?_
    show SF p e below T6 (mkF m 14 #[rv u1] []) _
    refine XS.aloadN X6.here hx rfl (hb hby d8_14) rfl rfl ?_
    show SF p e below T6 (mkF m 15 #[rv u1] [(.ref u1)]) _
    refine XS.bipush X6.here hx rfl (hb hby d8_15) ?_
    show SF p e below T6 (mkF m 17 #[rv u1] [(.int 64), (.ref u1)]) _
    refine st8.trans ?_
    show SF p e below T8 (mkF m 20 #[rv u1] []) _
    refine XS.aloadN X8.here hx rfl (hb hby d8_20) rfl rfl ?_
    show SF p e below T8 (mkF m 21 #[rv u1] [(.ref u1)]) _
    refine XS.iconst X8.here hx rfl (hb hby d8_21) ?_
    show SF p e below T8 (mkF m 22 #[rv u1] [(.int 0), (.ref u1)]) _
    refine st11 _ ?_
    show SF p e below T11 (mkF m 25 #[rv u1] []) _
    exact X11.returnOut hx Bd.returns (hb hby d8_25) hr
  · show Q8_12 Z u1 h0 n0 _ T11.heap _
    rw [e11]
    exact ⟨e1x, e2x, sz0_b18, rfl, N11, K11, F4_12, F4_13, Fw11, F4_14, F4_15⟩
theorem d1_56 : decode prog_10_method_1_code 56 = .ok (.putfield 33, 3) := by decide +kernel
theorem d1_59 : decode prog_10_method_1_code 59 = .ok (.return_, 1) := by decide +kernel
theorem pn_6 : plainName "com/example/qedbox/qedbox/Known$Learnt" = true := by first | (simp [plainName, overriddenIn]; done) | decide +kernel
theorem ef_8 (m : MethodId) (x0 : Addr) : entryFrame m #[(.ref x0)] 1 = mkF m 0 #[.val (.ref x0)] [] := by first | (simp [entryFrame, mkF, argsToLocals, Value.category]; done) | rfl
-- Known$Learnt.init 
def Q1_13 (Z : State) (u1 : Addr) (w2 : Addr) (h0 : Heap) (n0 : Nat) (v : Option Value) (h : Heap) (L : List Loc) : Prop := ∃ e1x : Addr, ∃ e2x : Addr, ∃ e3x : Addr, ∃ e4x : Addr, ∃ e5x : Addr, ∃ e6x : Addr, ∃ e7x : Addr, ∃ e8x : Addr, ∃ e9x : ClassId, ∃ e10x : ClassId, ∃ e11x : ClassId, h0.size ≤ e1x ∧ h0.size ≤ e2x ∧ h0.size ≤ e3x ∧ h0.size ≤ e4x ∧ h0.size ≤ e5x ∧ h0.size ≤ e6x ∧ h0.size ≤ e7x ∧ h0.size ≤ e8x ∧ e1x ≠ e2x ∧ e1x ≠ e3x ∧ e1x ≠ e4x ∧ e1x ≠ e5x ∧ e1x ≠ e6x ∧ e1x ≠ e7x ∧ e1x ≠ e8x ∧ e2x ≠ e3x ∧ e2x ≠ e4x ∧ e2x ≠ e5x ∧ e2x ≠ e6x ∧ e2x ≠ e7x ∧ e2x ≠ e8x ∧ e3x ≠ e4x ∧ e3x ≠ e5x ∧ e3x ≠ e6x ∧ e3x ≠ e7x ∧ e3x ≠ e8x ∧ e4x ≠ e5x ∧ e4x ≠ e6x ∧ e4x ≠ e7x ∧ e4x ≠ e8x ∧ e5x ≠ e6x ∧ e5x ≠ e7x ∧ e5x ≠ e8x ∧ e6x ≠ e7x ∧ e6x ≠ e8x ∧ e7x ≠ e8x ∧ v = none ∧ Fr n0 L ∧ Keep h0 h [u1] ∧ Exa Z h u1 "com/example/qedbox/qedbox/Known$Learnt" ∧ Fld Z h u1 "com/example/qedbox/qedbox/Known$Learnt" "values" "Ljava/util/List;" (.ref e1x) ∧ Fld Z h u1 "com/example/qedbox/qedbox/Known$Learnt" "places" "Ljava/util/Map;" (.ref e2x) ∧ Fld Z h u1 "com/example/qedbox/qedbox/Known$Learnt" "guessed" "Ljava/util/BitSet;" (.ref e3x) ∧ Fld Z h u1 "com/example/qedbox/qedbox/Known$Learnt" "dropped" "Ljava/util/BitSet;" (.ref e5x) ∧ Fld Z h u1 "com/example/qedbox/qedbox/Known$Learnt" "anew" "Ljava/util/BitSet;" (.ref e7x) ∧ Exa Z h e1x "java/util/ArrayList" ∧ Fld Z h e1x "java/util/AbstractList" "modCount" "I" (.int 0) ∧ Fld Z h e1x "java/util/ArrayList" "elementData" "[Ljava/lang/Object;" (.ref w2) ∧ Exa Z h e2x "java/util/HashMap" ∧ Fld Z h e2x "java/util/HashMap" "loadFactor" "F" (.float (1061158912 : UInt32)) ∧ Exa Z h e3x "java/util/BitSet" ∧ Fld Z h e3x "java/util/BitSet" "wordsInUse" "I" (.int 0) ∧ Fld Z h e3x "java/util/BitSet" "sizeIsSticky" "Z" (.int 0) ∧ Fld Z h e3x "java/util/BitSet" "words" "[J" (.ref e4x) ∧ Arv Z h e4x e9x .long (1 : Int32) [(.long 0)] (.long (0 : Int64)) ∧ Exa Z h e5x "java/util/BitSet" ∧ Fld Z h e5x "java/util/BitSet" "wordsInUse" "I" (.int 0) ∧ Fld Z h e5x "java/util/BitSet" "sizeIsSticky" "Z" (.int 0) ∧ Fld Z h e5x "java/util/BitSet" "words" "[J" (.ref e6x) ∧ Arv Z h e6x e10x .long (1 : Int32) [(.long 0)] (.long (0 : Int64)) ∧ Exa Z h e7x "java/util/BitSet" ∧ Fld Z h e7x "java/util/BitSet" "wordsInUse" "I" (.int 0) ∧ Fld Z h e7x "java/util/BitSet" "sizeIsSticky" "Z" (.int 0) ∧ Fld Z h e7x "java/util/BitSet" "words" "[J" (.ref e8x) ∧ Arv Z h e8x e11x .long (1 : Int32) [(.long 0)] (.long (0 : Int64))
set_option maxRecDepth 65536 in
set_option maxHeartbeats 40000000 in
theorem rm1_13 (l : Launch) (Z : State) (a0 : Array Value) (hw : HW Z a0) (ws : List Jvm.Cond) (u1 : Addr) (w2 : Addr) (h0 : Heap) (n0 : Nat) (Z0 : n0 ≤ h0.size) (Sg2 : Sta Z Z.heap "java/util/ArrayList" "DEFAULTCAPACITY_EMPTY_ELEMENTDATA" "[Ljava/lang/Object;" (.ref w2)) (P2 : Old Z n0 h0) (P3 : Exa Z h0 u1 "com/example/qedbox/qedbox/Known$Learnt") (P4 : Fld Z h0 u1 "com/example/qedbox/qedbox/Known$Learnt" "values" "Ljava/util/List;" .null) (P5 : u1 < h0.size) (P6 : Fld Z h0 u1 "com/example/qedbox/qedbox/Known$Learnt" "places" "Ljava/util/Map;" .null) (P7 : Fld Z h0 u1 "com/example/qedbox/qedbox/Known$Learnt" "guessed" "Ljava/util/BitSet;" .null) (P8 : Fld Z h0 u1 "com/example/qedbox/qedbox/Known$Learnt" "dropped" "Ljava/util/BitSet;" .null) (P9 : Fld Z h0 u1 "com/example/qedbox/qedbox/Known$Learnt" "anew" "Ljava/util/BitSet;" .null) (P10 : n0 ≤ u1) :
    MF l Z (⟨"com/example/qedbox/qedbox/Known$Learnt", "<init>", "()V"⟩ : MethodName) (Jvm.Cond.code (⟨"com/example/qedbox/qedbox/Known$Learnt", "<init>", "()V"⟩ : MethodName) prog_10_method_1_code 1 none) ws ({ frames := 4, cells := 8, slots := 23, locals := 50 } : Room) #[(.ref u1)] h0 (Q1_13 Z u1 w2 h0 n0) := by
  refine MetFree.of_bodySF (plainFor_of_name pn_6) hisR ?_
  intro p e s m args below meth c s₁ Bd hml0 hP hK
  obtain ⟨rfl, hZ, hh⟩ := hP
  have hx := Bd.exec
  have hby := Bd.bytes
  have hml : c.maxLocals = 1 := hml0
  have hown : s.vm.findClass "com/example/qedbox/qedbox/Known$Learnt" = some m.cls := findClass_of_methodNamed Bd.named
  have hnm := (name_of_methodNamed Bd.named Bd.method).1
  have X0 : Stand p l e ({ frames := 4, cells := 8, slots := 23, locals := 50 } : Room) s m #[(.ref u1)] below meth c s₁ [] 0 0 := Stand.of_body Bd
  have e0 : s₁.heap = h0 := by rw [← hh, Bd.state]; rfl
  have N0 := Fr.nil n0
  have pre0 : ∀ t, SF p e below s₁ (mkF m 0 #[rv u1] []) t → SF p e below s₁ (entryFrame m #[(.ref u1)] 1) t := fun t k => castTop (ef_8 m u1) k
  obtain ⟨T1, X1, e1, st1⟩ := initO X0 hx hZ hown (tw hw 7 rfl) (tw hw 8 rfl) (tw hw 9 rfl) e0 (g := (mkF m 1 #[rv u1] [(.ref u1)])) rfl (by rw [hml]; rfl) rfl (hb hby d1_1) (by decide) (W := 0) (by show 2 * 0 + _ ≤ _; exact Nat.le_of_eq rfl) (by decide)
  obtain ⟨T2, h2, X2, e2, E2, A2, D2, -, st2⟩ := newO X1 hx hZ hown (tw hw 10 rfl) (tw hw 11 rfl) (tw hw 12 rfl) e1 (g := (mkF m 5 #[rv u1] [(.ref u1)])) rfl (hb hby d1_5) (by decide) (by decide)
  obtain ⟨e1x, g2⟩ : ∃ z, z = h0.size := ⟨_, rfl⟩
  rw [← g2] at A2 D2 st2
  have K2 : Keep h0 h2 [u1] := (Keep.refl h0 [u1]).ext E2
  have Fn3 : Fld Z h2 e1x "java/util/AbstractList" "modCount" "I" (.int 0) := D2 (Or.inl (tw hw 30 rfl)) (ty := .int) (by decide)
  have Fn4 : Fld Z h2 e1x "java/util/ArrayList" "elementData" "[Ljava/lang/Object;" .null := D2 (Or.inl (tw hw 33 rfl)) (ty := (.array (.object "java/lang/Object"))) (by decide)
  have g_b2 : n0 ≤ e1x := Nat.le_trans Z0 (Nat.le_of_eq g2.symm)
  have O2 : Old Z n0 h2 := P2.ext E2
  have Z2 : n0 ≤ h2.size := Nat.le_trans Z0 E2.1
  obtain ⟨_, _, ⟨T5, L5, k5x, n5⟩, -, X5, ⟨Lc5, hQ5, l5, y5, z5⟩, st5⟩ := X2.specialBack hx (y := (⟨"java/util/ArrayList", "<init>", "()V"⟩ : MethodName)) rfl hown (mvT hZ (tw hw 13 rfl)) (mvT hZ (tw hw 14 rfl)) (mvT hZ (tw hw 15 rfl)) (by decide) (backOf (W := 2) (rm3_3 l Z a0 hw [] e1x w2 h2 n0 Z2 A2 Fn3 Fn4 g_b2 Sg2 O2) hZ (tw hw 15 rfl) (tw hw 12 rfl) (by decide) (by decide)) (g := (mkF m 9 #[rv u1] [(.ref e1x), (.ref e1x), (.ref u1)])) rfl (by rw [hml]; rfl) (Steps.refl _) (a := e1x) (argsL := []) (rest := [(.ref e1x), (.ref u1)]) (lenOf pd_0 rfl) rfl (by show 2 * 0 + _ ≤ _; exact Nat.le_of_eq rfl) (hb hby d1_9) (fun _ _ => ⟨rfl, e2, (by decide : 1 + 0 ≤ _), (by decide : 3 + 0 ≤ _)⟩)
  dsimp only [Pt.U, Pt.locs, Pt.cells, Pt.slots] at X5 l5 y5 z5 st5 hQ5
  subst l5 y5 z5
  obtain ⟨rfl, N5q, K5c, Fq5_0, Fq5_1, Fq5_2⟩ := hQ5
  have sz0_b2 : h0.size ≤ e1x := Nat.le_trans (Keep.refl h0 [u1]).1 (Nat.le_of_eq g2.symm)
  have K5 : Keep h0 T5.heap [u1] := K2.trans K5c (allS (Or.inr sz0_b2) all0)
  have N5 := Fr.app N0 N5q
  have F1_6 : Exa Z h2 u1 "com/example/qedbox/qedbox/Known$Learnt" := P3.ext E2
  have F2_7 : Exa Z T5.heap u1 "com/example/qedbox/qedbox/Known$Learnt" := F1_6.keep K5c
  have F1_8 : Fld Z h2 u1 "com/example/qedbox/qedbox/Known$Learnt" "values" "Ljava/util/List;" .null := P4.ext E2
  have F2_9 : Fld Z T5.heap u1 "com/example/qedbox/qedbox/Known$Learnt" "values" "Ljava/util/List;" .null := F1_8.keep K5c (ninS (Nat.ne_of_lt (Nat.lt_of_lt_of_le P5 (Nat.le_of_eq g2.symm))) nin0)
  have F1_10 : Fld Z h2 u1 "com/example/qedbox/qedbox/Known$Learnt" "places" "Ljava/util/Map;" .null := P6.ext E2
  have F2_11 : Fld Z T5.heap u1 "com/example/qedbox/qedbox/Known$Learnt" "places" "Ljava/util/Map;" .null := F1_10.keep K5c (ninS (Nat.ne_of_lt (Nat.lt_of_lt_of_le P5 (Nat.le_of_eq g2.symm))) nin0)
  have F1_12 : Fld Z h2 u1 "com/example/qedbox/qedbox/Known$Learnt" "guessed" "Ljava/util/BitSet;" .null := P7.ext E2
  have F2_13 : Fld Z T5.heap u1 "com/example/qedbox/qedbox/Known$Learnt" "guessed" "Ljava/util/BitSet;" .null := F1_12.keep K5c (ninS (Nat.ne_of_lt (Nat.lt_of_lt_of_le P5 (Nat.le_of_eq g2.symm))) nin0)
  have F1_14 : Fld Z h2 u1 "com/example/qedbox/qedbox/Known$Learnt" "dropped" "Ljava/util/BitSet;" .null := P8.ext E2
  have F2_15 : Fld Z T5.heap u1 "com/example/qedbox/qedbox/Known$Learnt" "dropped" "Ljava/util/BitSet;" .null := F1_14.keep K5c (ninS (Nat.ne_of_lt (Nat.lt_of_lt_of_le P5 (Nat.le_of_eq g2.symm))) nin0)
  have F1_16 : Fld Z h2 u1 "com/example/qedbox/qedbox/Known$Learnt" "anew" "Ljava/util/BitSet;" .null := P9.ext E2
  have F2_17 : Fld Z T5.heap u1 "com/example/qedbox/qedbox/Known$Learnt" "anew" "Ljava/util/BitSet;" .null := F1_16.keep K5c (ninS (Nat.ne_of_lt (Nat.lt_of_lt_of_le P5 (Nat.le_of_eq g2.symm))) nin0)
  obtain ⟨T18, h18, X18, e18, W18, st18⟩ := putF X5 hx hZ hown (host := "") (Or.inl (tw hw 34 rfl)) Via.refl rfl F2_9 F2_7 (Or.inr ⟨(tw hw 35 rfl), rfl, hnm⟩) (tw hw 2 rfl) (ty := (.object "java/util/List")) (by decide) rfl rfl (g := (mkF m 12 #[rv u1] [(.ref e1x), (.ref u1)])) rfl rfl (hb hby d1_12)
  have K18 : Keep h0 h18 [u1] := K5.wr W18 (Or.inl (List.mem_of_getElem? (i := 0) rfl))
  have N18 := Fr.snoc X18 N5 P10
  have Fw18 : Fld Z h18 u1 "com/example/qedbox/qedbox/Known$Learnt" "values" "Ljava/util/List;" (.ref e1x) := F2_9.same W18
  obtain ⟨T19, h19, X19, e19, E19, A19, D19, -, st19⟩ := newO X18 hx hZ hown (tw hw 36 rfl) (tw hw 37 rfl) (tw hw 38 rfl) e18 (g := (mkF m 16 #[rv u1] [(.ref u1)])) rfl (hb hby d1_16) (by decide) (by decide)
  obtain ⟨e2x, g19⟩ : ∃ z, z = h18.size := ⟨_, rfl⟩
  rw [← g19] at A19 D19 st19
  have K19 : Keep h0 h19 [u1] := K18.ext E19
  have Fn20 : Fld Z h19 e2x "java/util/HashMap" "loadFactor" "F" (.float 0) := D19 (Or.inr (tw hw 51 rfl)) (ty := .float) (by decide)
  have Z5 : n0 ≤ T5.heap.size := Nat.le_trans Z2 K5c.1
  have Z18 : n0 ≤ h18.size := Nat.le_trans Z5 (Keep.of_wr W18).1
  have g_b3 : n0 ≤ e2x := Nat.le_trans Z18 (Nat.le_of_eq g19.symm)
  have Z19 : n0 ≤ h19.size := Nat.le_trans Z18 E19.1
  obtain ⟨_, _, ⟨T21, L21, k21x, n21⟩, -, X21, ⟨Lc21, hQ21, l21, y21, z21⟩, st21⟩ := X19.specialBack hx (y := (⟨"java/util/HashMap", "<init>", "()V"⟩ : MethodName)) rfl hown (mvT hZ (tw hw 39 rfl)) (mvT hZ (tw hw 40 rfl)) (mvT hZ (tw hw 41 rfl)) (by decide) (backOf (W := 2) (rm6_5 l Z a0 hw [] e2x h19 n0 Z19 A19 Fn20 g_b3) hZ (tw hw 41 rfl) (tw hw 38 rfl) (by decide) (by decide)) (g := (mkF m 20 #[rv u1] [(.ref e2x), (.ref e2x), (.ref u1)])) rfl (by rw [hml]; rfl) (Steps.refl _) (a := e2x) (argsL := []) (rest := [(.ref e2x), (.ref u1)]) (lenOf pd_0 rfl) rfl (by show 2 * 0 + _ ≤ _; exact Nat.le_of_eq rfl) (hb hby d1_20) (fun _ _ => ⟨rfl, e19, (by decide : 2 + 0 ≤ _), (by decide : 11 + 0 ≤ _)⟩)
  dsimp only [Pt.U, Pt.locs, Pt.cells, Pt.slots] at X21 l21 y21 z21 st21 hQ21
  subst l21 y21 z21
  obtain ⟨rfl, N21q, K21c, Fq21_0, Fq21_1⟩ := hQ21
  have sz0_b3 : h0.size ≤ e2x := Nat.le_trans K18.1 (Nat.le_of_eq g19.symm)
  have K21 : Keep h0 T21.heap [u1] := K19.trans K21c (allS (Or.inr sz0_b3) all0)
  have N21 := Fr.app N18 N21q
  have F3_22 : Exa Z h18 u1 "com/example/qedbox/qedbox/Known$Learnt" := F2_7.wr W18
  have F4_23 : Exa Z h19 u1 "com/example/qedbox/qedbox/Known$Learnt" := F3_22.ext E19
  have F5_24 : Exa Z T21.heap u1 "com/example/qedbox/qedbox/Known$Learnt" := F4_23.keep K21c
  have F3_25 : Fld Z h18 u1 "com/example/qedbox/qedbox/Known$Learnt" "places" "Ljava/util/Map;" .null := F2_11.other W18 (Or.inr (slot_ne (Or.inr (tw hw 53 rfl)) (Or.inr (tw hw 35 rfl)) (by decide) (t := (.object "java/util/Map")) (t' := (.object "java/util/List")) (by decide) (by decide)))
  have F4_26 : Fld Z h19 u1 "com/example/qedbox/qedbox/Known$Learnt" "places" "Ljava/util/Map;" .null := F3_25.ext E19
  have lt_b1_1 : u1 < h2.size := Nat.lt_of_lt_of_le P5 E2.1
  have lt_b1_2 : u1 < T5.heap.size := Nat.lt_of_lt_of_le lt_b1_1 K5c.1
  have lt_b1_3 : u1 < h18.size := Nat.lt_of_lt_of_le lt_b1_2 (Keep.of_wr W18).1
  have F5_27 : Fld Z T21.heap u1 "com/example/qedbox/qedbox/Known$Learnt" "places" "Ljava/util/Map;" .null := F4_26.keep K21c (ninS (Nat.ne_of_lt (Nat.lt_of_lt_of_le lt_b1_3 (Nat.le_of_eq g19.symm))) nin0)
  have F4_28 : Fld Z h19 u1 "com/example/qedbox/qedbox/Known$Learnt" "values" "Ljava/util/List;" (.ref e1x) := Fw18.ext E19
  have F5_29 : Fld Z T21.heap u1 "com/example/qedbox/qedbox/Known$Learnt" "values" "Ljava/util/List;" (.ref e1x) := F4_28.keep K21c (ninS (Nat.ne_of_lt (Nat.lt_of_lt_of_le lt_b1_3 (Nat.le_of_eq g19.symm))) nin0)
  have F3_30 : Fld Z h18 u1 "com/example/qedbox/qedbox/Known$Learnt" "guessed" "Ljava/util/BitSet;" .null := F2_13.other W18 (Or.inr (slot_ne (Or.inr (tw hw 77 rfl)) (Or.inr (tw hw 35 rfl)) (by decide) (t := (.object "java/util/BitSet")) (t' := (.object "java/util/List")) (by decide) (by decide)))
  have F4_31 : Fld Z h19 u1 "com/example/qedbox/qedbox/Known$Learnt" "guessed" "Ljava/util/BitSet;" .null := F3_30.ext E19
  have F5_32 : Fld Z T21.heap u1 "com/example/qedbox/qedbox/Known$Learnt" "guessed" "Ljava/util/BitSet;" .null := F4_31.keep K21c (ninS (Nat.ne_of_lt (Nat.lt_of_lt_of_le lt_b1_3 (Nat.le_of_eq g19.symm))) nin0)
  have F3_33 : Fld Z h18 u1 "com/example/qedbox/qedbox/Known$Learnt" "dropped" "Ljava/util/BitSet;" .null := F2_15.other W18 (Or.inr (slot_ne (Or.inr (tw hw 79 rfl)) (Or.inr (tw hw 35 rfl)) (by decide) (t := (.object "java/util/BitSet")) (t' := (.object "java/util/List")) (by decide) (by decide)))
  have F4_34 : Fld Z h19 u1 "com/example/qedbox/qedbox/Known$Learnt" "dropped" "Ljava/util/BitSet;" .null := F3_33.ext E19
  have F5_35 : Fld Z T21.heap u1 "com/example/qedbox/qedbox/Known$Learnt" "dropped" "Ljava/util/BitSet;" .null := F4_34.keep K21c (ninS (Nat.ne_of_lt (Nat.lt_of_lt_of_le lt_b1_3 (Nat.le_of_eq g19.symm))) nin0)
  have F3_36 : Fld Z h18 u1 "com/example/qedbox/qedbox/Known$Learnt" "anew" "Ljava/util/BitSet;" .null := F2_17.other W18 (Or.inr (slot_ne (Or.inr (tw hw 81 rfl)) (Or.inr (tw hw 35 rfl)) (by decide) (t := (.object "java/util/BitSet")) (t' := (.object "java/util/List")) (by decide) (by decide)))
  have F4_37 : Fld Z h19 u1 "com/example/qedbox/qedbox/Known$Learnt" "anew" "Ljava/util/BitSet;" .null := F3_36.ext E19
  have F5_38 : Fld Z T21.heap u1 "com/example/qedbox/qedbox/Known$Learnt" "anew" "Ljava/util/BitSet;" .null := F4_37.keep K21c (ninS (Nat.ne_of_lt (Nat.lt_of_lt_of_le lt_b1_3 (Nat.le_of_eq g19.symm))) nin0)
  obtain ⟨T39, h39, X39, e39, W39, st39⟩ := putF X21 hx hZ hown (host := "") (Or.inl (tw hw 52 rfl)) Via.refl rfl F5_27 F5_24 (Or.inr ⟨(tw hw 53 rfl), rfl, hnm⟩) (tw hw 2 rfl) (ty := (.object "java/util/Map")) (by decide) rfl rfl (g := (mkF m 23 #[rv u1] [(.ref e2x), (.ref u1)])) rfl rfl (hb hby d1_23)
  have K39 : Keep h0 h39 [u1] := K21.wr W39 (Or.inl (List.mem_of_getElem? (i := 0) rfl))
  have N39 := Fr.snoc X39 N21 P10
  have Fw39 : Fld Z h39 u1 "com/example/qedbox/qedbox/Known$Learnt" "places" "Ljava/util/Map;" (.ref e2x) := F5_27.same W39
  obtain ⟨T40, h40, X40, e40, E40, A40, D40, -, st40⟩ := newO X39 hx hZ hown (tw hw 54 rfl) (tw hw 55 rfl) (tw hw 56 rfl) e39 (g := (mkF m 27 #[rv u1] [(.ref u1)])) rfl (hb hby d1_27) (by decide) (by decide)
  obtain ⟨e3x, g40⟩ : ∃ z, z = h39.size := ⟨_, rfl⟩
  rw [← g40] at A40 D40 st40
  have K40 : Keep h0 h40 [u1] := K39.ext E40
  have Fn41 : Fld Z h40 e3x "java/util/BitSet" "wordsInUse" "I" (.int 0) := D40 (Or.inl (tw hw 62 rfl)) (ty := .int) (by decide)
  have Fn42 : Fld Z h40 e3x "java/util/BitSet" "sizeIsSticky" "Z" (.int 0) := D40 (Or.inl (tw hw 64 rfl)) (ty := .boolean) (by decide)
  have Fn43 : Fld Z h40 e3x "java/util/BitSet" "words" "[J" .null := D40 (Or.inl (tw hw 75 rfl)) (ty := (.array .long)) (by decide)
  have Z21 : n0 ≤ T21.heap.size := Nat.le_trans Z19 K21c.1
  have Z39 : n0 ≤ h39.size := Nat.le_trans Z21 (Keep.of_wr W39).1
  have g_b4 : n0 ≤ e3x := Nat.le_trans Z39 (Nat.le_of_eq g40.symm)
  have Z40 : n0 ≤ h40.size := Nat.le_trans Z39 E40.1
  obtain ⟨_, _, ⟨T44, L44, k44x, n44⟩, -, X44, ⟨Lc44, hQ44, l44, y44, z44⟩, st44⟩ := X40.specialBack hx (y := (⟨"java/util/BitSet", "<init>", "()V"⟩ : MethodName)) rfl hown (mvT hZ (tw hw 57 rfl)) (mvT hZ (tw hw 58 rfl)) (mvT hZ (tw hw 59 rfl)) (by decide) (backOf (W := 2) (rm8_8 l Z a0 hw [] e3x h40 n0 Z40 A40 Fn41 Fn42 Fn43 g_b4 A40.lt) hZ (tw hw 59 rfl) (tw hw 56 rfl) (by decide) (by decide)) (g := (mkF m 31 #[rv u1] [(.ref e3x), (.ref e3x), (.ref u1)])) rfl (by rw [hml]; rfl) (Steps.refl _) (a := e3x) (argsL := []) (rest := [(.ref e3x), (.ref u1)]) (lenOf pd_0 rfl) rfl (by show 2 * 0 + _ ≤ _; exact Nat.le_of_eq rfl) (hb hby d1_31) (fun _ _ => ⟨rfl, e40, (by decide : 3 + 1 ≤ _), (by decide : 14 + 1 ≤ _)⟩)
  dsimp only [Pt.U, Pt.locs, Pt.cells, Pt.slots] at X44 l44 y44 z44 st44 hQ44
  subst l44 y44 z44
  obtain ⟨e4x, e9x, bz_b8, rfl, N44q, K44c, Fq44_0, Fq44_1, Fq44_2, Fq44_3, Fq44_4⟩ := hQ44
  have sz0_b4 : h0.size ≤ e3x := Nat.le_trans K39.1 (Nat.le_of_eq g40.symm)
  have K44 : Keep h0 T44.heap [u1] := K40.trans K44c (allS (Or.inr sz0_b4) all0)
  have N44 := Fr.app N39 N44q
  have F6_45 : Exa Z h39 u1 "com/example/qedbox/qedbox/Known$Learnt" := F5_24.wr W39
  have F7_46 : Exa Z h40 u1 "com/example/qedbox/qedbox/Known$Learnt" := F6_45.ext E40
  have F8_47 : Exa Z T44.heap u1 "com/example/qedbox/qedbox/Known$Learnt" := F7_46.keep K44c
  have F6_48 : Fld Z h39 u1 "com/example/qedbox/qedbox/Known$Learnt" "guessed" "Ljava/util/BitSet;" .null := F5_32.other W39 (Or.inr (slot_ne (Or.inr (tw hw 77 rfl)) (Or.inr (tw hw 53 rfl)) (by decide) (t := (.object "java/util/BitSet")) (t' := (.object "java/util/Map")) (by decide) (by decide)))
  have F7_49 : Fld Z h40 u1 "com/example/qedbox/qedbox/Known$Learnt" "guessed" "Ljava/util/BitSet;" .null := F6_48.ext E40
  have lt_b1_4 : u1 < h19.size := Nat.lt_of_lt_of_le lt_b1_3 E19.1
  have lt_b1_5 : u1 < T21.heap.size := Nat.lt_of_lt_of_le lt_b1_4 K21c.1
  have lt_b1_6 : u1 < h39.size := Nat.lt_of_lt_of_le lt_b1_5 (Keep.of_wr W39).1
  have F8_50 : Fld Z T44.heap u1 "com/example/qedbox/qedbox/Known$Learnt" "guessed" "Ljava/util/BitSet;" .null := F7_49.keep K44c (ninS (Nat.ne_of_lt (Nat.lt_of_lt_of_le lt_b1_6 (Nat.le_of_eq g40.symm))) nin0)
  have F6_51 : Fld Z h39 u1 "com/example/qedbox/qedbox/Known$Learnt" "values" "Ljava/util/List;" (.ref e1x) := F5_29.other W39 (Or.inr (slot_ne (Or.inr (tw hw 35 rfl)) (Or.inr (tw hw 53 rfl)) (by decide) (t := (.object "java/util/List")) (t' := (.object "java/util/Map")) (by decide) (by decide)))
  have F7_52 : Fld Z h40 u1 "com/example/qedbox/qedbox/Known$Learnt" "values" "Ljava/util/List;" (.ref e1x) := F6_51.ext E40
  have F8_53 : Fld Z T44.heap u1 "com/example/qedbox/qedbox/Known$Learnt" "values" "Ljava/util/List;" (.ref e1x) := F7_52.keep K44c (ninS (Nat.ne_of_lt (Nat.lt_of_lt_of_le lt_b1_6 (Nat.le_of_eq g40.symm))) nin0)
  have F7_54 : Fld Z h40 u1 "com/example/qedbox/qedbox/Known$Learnt" "places" "Ljava/util/Map;" (.ref e2x) := Fw39.ext E40
  have F8_55 : Fld Z T44.heap u1 "com/example/qedbox/qedbox/Known$Learnt" "places" "Ljava/util/Map;" (.ref e2x) := F7_54.keep K44c (ninS (Nat.ne_of_lt (Nat.lt_of_lt_of_le lt_b1_6 (Nat.le_of_eq g40.symm))) nin0)
  have F6_56 : Fld Z h39 u1 "com/example/qedbox/qedbox/Known$Learnt" "dropped" "Ljava/util/BitSet;" .null := F5_35.other W39 (Or.inr (slot_ne (Or.inr (tw hw 79 rfl)) (Or.inr (tw hw 53 rfl)) (by decide) (t := (.object "java/util/BitSet")) (t' := (.object "java/util/Map")) (by decide) (by decide)))
  have F7_57 : Fld Z h40 u1 "com/example/qedbox/qedbox/Known$Learnt" "dropped" "Ljava/util/BitSet;" .null := F6_56.ext E40
  have F8_58 : Fld Z T44.heap u1 "com/example/qedbox/qedbox/Known$Learnt" "dropped" "Ljava/util/BitSet;" .null := F7_57.keep K44c (ninS (Nat.ne_of_lt (Nat.lt_of_lt_of_le lt_b1_6 (Nat.le_of_eq g40.symm))) nin0)
  have F6_59 : Fld Z h39 u1 "com/example/qedbox/qedbox/Known$Learnt" "anew" "Ljava/util/BitSet;" .null := F5_38.other W39 (Or.inr (slot_ne (Or.inr (tw hw 81 rfl)) (Or.inr (tw hw 53 rfl)) (by decide) (t := (.object "java/util/BitSet")) (t' := (.object "java/util/Map")) (by decide) (by decide)))
  have F7_60 : Fld Z h40 u1 "com/example/qedbox/qedbox/Known$Learnt" "anew" "Ljava/util/BitSet;" .null := F6_59.ext E40
  have F8_61 : Fld Z T44.heap u1 "com/example/qedbox/qedbox/Known$Learnt" "anew" "Ljava/util/BitSet;" .null := F7_60.keep K44c (ninS (Nat.ne_of_lt (Nat.lt_of_lt_of_le lt_b1_6 (Nat.le_of_eq g40.symm))) nin0)
  obtain ⟨T62, h62, X62, e62, W62, st62⟩ := putF X44 hx hZ hown (host := "") (Or.inl (tw hw 76 rfl)) Via.refl rfl F8_50 F8_47 (Or.inr ⟨(tw hw 77 rfl), rfl, hnm⟩) (tw hw 2 rfl) (ty := (.object "java/util/BitSet")) (by decide) rfl rfl (g := (mkF m 34 #[rv u1] [(.ref e3x), (.ref u1)])) rfl rfl (hb hby d1_34)
  have K62 : Keep h0 h62 [u1] := K44.wr W62 (Or.inl (List.mem_of_getElem? (i := 0) rfl))
  have N62 := Fr.snoc X62 N44 P10
  have Fw62 : Fld Z h62 u1 "com/example/qedbox/qedbox/Known$Learnt" "guessed" "Ljava/util/BitSet;" (.ref e3x) := F8_50.same W62
  obtain ⟨T63, h63, X63, e63, E63, A63, D63, -, st63⟩ := newO X62 hx hZ hown (tw hw 54 rfl) (tw hw 55 rfl) (tw hw 56 rfl) e62 (g := (mkF m 38 #[rv u1] [(.ref u1)])) rfl (hb hby d1_38) (by decide) (by decide)
  obtain ⟨e5x, g63⟩ : ∃ z, z = h62.size := ⟨_, rfl⟩
  rw [← g63] at A63 D63 st63
  have K63 : Keep h0 h63 [u1] := K62.ext E63
  have Fn64 : Fld Z h63 e5x "java/util/BitSet" "wordsInUse" "I" (.int 0) := D63 (Or.inl (tw hw 62 rfl)) (ty := .int) (by decide)
  have Fn65 : Fld Z h63 e5x "java/util/BitSet" "sizeIsSticky" "Z" (.int 0) := D63 (Or.inl (tw hw 64 rfl)) (ty := .boolean) (by decide)
  have Fn66 : Fld Z h63 e5x "java/util/BitSet" "words" "[J" .null := D63 (Or.inl (tw hw 75 rfl)) (ty := (.array .long)) (by decide)
  have Z44 : n0 ≤ T44.heap.size := Nat.le_trans Z40 K44c.1
  have Z62 : n0 ≤ h62.size := Nat.le_trans Z44 (Keep.of_wr W62).1
  have g_b10 : n0 ≤ e5x := Nat.le_trans Z62 (Nat.le_of_eq g63.symm)
  have Z63 : n0 ≤ h63.size := Nat.le_trans Z62 E63.1
  obtain ⟨_, _, ⟨T67, L67, k67x, n67⟩, -, X67, ⟨Lc67, hQ67, l67, y67, z67⟩, st67⟩ := X63.specialBack hx (y := (⟨"java/util/BitSet", "<init>", "()V"⟩ : MethodName)) rfl hown (mvT hZ (tw hw 57 rfl)) (mvT hZ (tw hw 58 rfl)) (mvT hZ (tw hw 59 rfl)) (by decide) (backOf (W := 2) (rm8_10 l Z a0 hw [] e5x h63 n0 Z63 A63 Fn64 Fn65 Fn66 g_b10 A63.lt) hZ (tw hw 59 rfl) (tw hw 56 rfl) (by decide) (by decide)) (g := (mkF m 42 #[rv u1] [(.ref e5x), (.ref e5x), (.ref u1)])) rfl (by rw [hml]; rfl) (Steps.refl _) (a := e5x) (argsL := []) (rest := [(.ref e5x), (.ref u1)]) (lenOf pd_0 rfl) rfl (by show 2 * 0 + _ ≤ _; exact Nat.le_of_eq rfl) (hb hby d1_42) (fun _ _ => ⟨rfl, e63, (by decide : 5 + 1 ≤ _), (by decide : 18 + 1 ≤ _)⟩)
  dsimp only [Pt.U, Pt.locs, Pt.cells, Pt.slots] at X67 l67 y67 z67 st67 hQ67
  subst l67 y67 z67
  obtain ⟨e6x, e10x, bz_b14, rfl, N67q, K67c, Fq67_0, Fq67_1, Fq67_2, Fq67_3, Fq67_4⟩ := hQ67
  have sz0_b10 : h0.size ≤ e5x := Nat.le_trans K62.1 (Nat.le_of_eq g63.symm)
  have K67 : Keep h0 T67.heap [u1] := K63.trans K67c (allS (Or.inr sz0_b10) all0)
  have N67 := Fr.app N62 N67q
  have F9_68 : Exa Z h62 u1 "com/example/qedbox/qedbox/Known$Learnt" := F8_47.wr W62
  have F10_69 : Exa Z h63 u1 "com/example/qedbox/qedbox/Known$Learnt" := F9_68.ext E63
  have F11_70 : Exa Z T67.heap u1 "com/example/qedbox/qedbox/Known$Learnt" := F10_69.keep K67c
  have F9_71 : Fld Z h62 u1 "com/example/qedbox/qedbox/Known$Learnt" "dropped" "Ljava/util/BitSet;" .null := F8_58.other W62 (Or.inr (slot_ne (Or.inr (tw hw 79 rfl)) (Or.inr (tw hw 77 rfl)) (by decide) (t := (.object "java/util/BitSet")) (t' := (.object "java/util/BitSet")) (by decide) (by decide)))
  have F10_72 : Fld Z h63 u1 "com/example/qedbox/qedbox/Known$Learnt" "dropped" "Ljava/util/BitSet;" .null := F9_71.ext E63
  have lt_b1_7 : u1 < h40.size := Nat.lt_of_lt_of_le lt_b1_6 E40.1
  have lt_b1_8 : u1 < T44.heap.size := Nat.lt_of_lt_of_le lt_b1_7 K44c.1
  have lt_b1_9 : u1 < h62.size := Nat.lt_of_lt_of_le lt_b1_8 (Keep.of_wr W62).1
  have F11_73 : Fld Z T67.heap u1 "com/example/qedbox/qedbox/Known$Learnt" "dropped" "Ljava/util/BitSet;" .null := F10_72.keep K67c (ninS (Nat.ne_of_lt (Nat.lt_of_lt_of_le lt_b1_9 (Nat.le_of_eq g63.symm))) nin0)
  have F9_74 : Fld Z h62 u1 "com/example/qedbox/qedbox/Known$Learnt" "values" "Ljava/util/List;" (.ref e1x) := F8_53.other W62 (Or.inr (slot_ne (Or.inr (tw hw 35 rfl)) (Or.inr (tw hw 77 rfl)) (by decide) (t := (.object "java/util/List")) (t' := (.object "java/util/BitSet")) (by decide) (by decide)))
  have F10_75 : Fld Z h63 u1 "com/example/qedbox/qedbox/Known$Learnt" "values" "Ljava/util/List;" (.ref e1x) := F9_74.ext E63
  have F11_76 : Fld Z T67.heap u1 "com/example/qedbox/qedbox/Known$Learnt" "values" "Ljava/util/List;" (.ref e1x) := F10_75.keep K67c (ninS (Nat.ne_of_lt (Nat.lt_of_lt_of_le lt_b1_9 (Nat.le_of_eq g63.symm))) nin0)
  have F9_77 : Fld Z h62 u1 "com/example/qedbox/qedbox/Known$Learnt" "places" "Ljava/util/Map;" (.ref e2x) := F8_55.other W62 (Or.inr (slot_ne (Or.inr (tw hw 53 rfl)) (Or.inr (tw hw 77 rfl)) (by decide) (t := (.object "java/util/Map")) (t' := (.object "java/util/BitSet")) (by decide) (by decide)))
  have F10_78 : Fld Z h63 u1 "com/example/qedbox/qedbox/Known$Learnt" "places" "Ljava/util/Map;" (.ref e2x) := F9_77.ext E63
  have F11_79 : Fld Z T67.heap u1 "com/example/qedbox/qedbox/Known$Learnt" "places" "Ljava/util/Map;" (.ref e2x) := F10_78.keep K67c (ninS (Nat.ne_of_lt (Nat.lt_of_lt_of_le lt_b1_9 (Nat.le_of_eq g63.symm))) nin0)
  have F10_80 : Fld Z h63 u1 "com/example/qedbox/qedbox/Known$Learnt" "guessed" "Ljava/util/BitSet;" (.ref e3x) := Fw62.ext E63
  have F11_81 : Fld Z T67.heap u1 "com/example/qedbox/qedbox/Known$Learnt" "guessed" "Ljava/util/BitSet;" (.ref e3x) := F10_80.keep K67c (ninS (Nat.ne_of_lt (Nat.lt_of_lt_of_le lt_b1_9 (Nat.le_of_eq g63.symm))) nin0)
  have F9_82 : Fld Z h62 u1 "com/example/qedbox/qedbox/Known$Learnt" "anew" "Ljava/util/BitSet;" .null := F8_61.other W62 (Or.inr (slot_ne (Or.inr (tw hw 81 rfl)) (Or.inr (tw hw 77 rfl)) (by decide) (t := (.object "java/util/BitSet")) (t' := (.object "java/util/BitSet")) (by decide) (by decide)))
  have F10_83 : Fld Z h63 u1 "com/example/qedbox/qedbox/Known$Learnt" "anew" "Ljava/util/BitSet;" .null := F9_82.ext E63
  have F11_84 : Fld Z T67.heap u1 "com/example/qedbox/qedbox/Known$Learnt" "anew" "Ljava/util/BitSet;" .null := F10_83.keep K67c (ninS (Nat.ne_of_lt (Nat.lt_of_lt_of_le lt_b1_9 (Nat.le_of_eq g63.symm))) nin0)
  obtain ⟨T85, h85, X85, e85, W85, st85⟩ := putF X67 hx hZ hown (host := "") (Or.inl (tw hw 78 rfl)) Via.refl rfl F11_73 F11_70 (Or.inr ⟨(tw hw 79 rfl), rfl, hnm⟩) (tw hw 2 rfl) (ty := (.object "java/util/BitSet")) (by decide) rfl rfl (g := (mkF m 45 #[rv u1] [(.ref e5x), (.ref u1)])) rfl rfl (hb hby d1_45)
  have K85 : Keep h0 h85 [u1] := K67.wr W85 (Or.inl (List.mem_of_getElem? (i := 0) rfl))
  have N85 := Fr.snoc X85 N67 P10
  have Fw85 : Fld Z h85 u1 "com/example/qedbox/qedbox/Known$Learnt" "dropped" "Ljava/util/BitSet;" (.ref e5x) := F11_73.same W85
  obtain ⟨T86, h86, X86, e86, E86, A86, D86, -, st86⟩ := newO X85 hx hZ hown (tw hw 54 rfl) (tw hw 55 rfl) (tw hw 56 rfl) e85 (g := (mkF m 49 #[rv u1] [(.ref u1)])) rfl (hb hby d1_49) (by decide) (by decide)
  obtain ⟨e7x, g86⟩ : ∃ z, z = h85.size := ⟨_, rfl⟩
  rw [← g86] at A86 D86 st86
  have K86 : Keep h0 h86 [u1] := K85.ext E86
  have Fn87 : Fld Z h86 e7x "java/util/BitSet" "wordsInUse" "I" (.int 0) := D86 (Or.inl (tw hw 62 rfl)) (ty := .int) (by decide)
  have Fn88 : Fld Z h86 e7x "java/util/BitSet" "sizeIsSticky" "Z" (.int 0) := D86 (Or.inl (tw hw 64 rfl)) (ty := .boolean) (by decide)
  have Fn89 : Fld Z h86 e7x "java/util/BitSet" "words" "[J" .null := D86 (Or.inl (tw hw 75 rfl)) (ty := (.array .long)) (by decide)
  have Z67 : n0 ≤ T67.heap.size := Nat.le_trans Z63 K67c.1
  have Z85 : n0 ≤ h85.size := Nat.le_trans Z67 (Keep.of_wr W85).1
  have g_b16 : n0 ≤ e7x := Nat.le_trans Z85 (Nat.le_of_eq g86.symm)
  have Z86 : n0 ≤ h86.size := Nat.le_trans Z85 E86.1
  obtain ⟨_, _, ⟨T90, L90, k90x, n90⟩, -, X90, ⟨Lc90, hQ90, l90, y90, z90⟩, st90⟩ := X86.specialBack hx (y := (⟨"java/util/BitSet", "<init>", "()V"⟩ : MethodName)) rfl hown (mvT hZ (tw hw 57 rfl)) (mvT hZ (tw hw 58 rfl)) (mvT hZ (tw hw 59 rfl)) (by decide) (backOf (W := 2) (rm8_12 l Z a0 hw [] e7x h86 n0 Z86 A86 Fn87 Fn88 Fn89 g_b16 A86.lt) hZ (tw hw 59 rfl) (tw hw 56 rfl) (by decide) (by decide)) (g := (mkF m 53 #[rv u1] [(.ref e7x), (.ref e7x), (.ref u1)])) rfl (by rw [hml]; rfl) (Steps.refl _) (a := e7x) (argsL := []) (rest := [(.ref e7x), (.ref u1)]) (lenOf pd_0 rfl) rfl (by show 2 * 0 + _ ≤ _; exact Nat.le_of_eq rfl) (hb hby d1_53) (fun _ _ => ⟨rfl, e86, (by decide : 7 + 1 ≤ _), (by decide : 22 + 1 ≤ _)⟩)
  dsimp only [Pt.U, Pt.locs, Pt.cells, Pt.slots] at X90 l90 y90 z90 st90 hQ90
  subst l90 y90 z90
  obtain ⟨e8x, e11x, bz_b20, rfl, N90q, K90c, Fq90_0, Fq90_1, Fq90_2, Fq90_3, Fq90_4⟩ := hQ90
  have sz0_b16 : h0.size ≤ e7x := Nat.le_trans K85.1 (Nat.le_of_eq g86.symm)
  have K90 : Keep h0 T90.heap [u1] := K86.trans K90c (allS (Or.inr sz0_b16) all0)
  have N90 := Fr.app N85 N90q
  have F12_91 : Exa Z h85 u1 "com/example/qedbox/qedbox/Known$Learnt" := F11_70.wr W85
  have F13_92 : Exa Z h86 u1 "com/example/qedbox/qedbox/Known$Learnt" := F12_91.ext E86
  have F14_93 : Exa Z T90.heap u1 "com/example/qedbox/qedbox/Known$Learnt" := F13_92.keep K90c
  have F12_94 : Fld Z h85 u1 "com/example/qedbox/qedbox/Known$Learnt" "anew" "Ljava/util/BitSet;" .null := F11_84.other W85 (Or.inr (slot_ne (Or.inr (tw hw 81 rfl)) (Or.inr (tw hw 79 rfl)) (by decide) (t := (.object "java/util/BitSet")) (t' := (.object "java/util/BitSet")) (by decide) (by decide)))
  have F13_95 : Fld Z h86 u1 "com/example/qedbox/qedbox/Known$Learnt" "anew" "Ljava/util/BitSet;" .null := F12_94.ext E86
  have lt_b1_10 : u1 < h63.size := Nat.lt_of_lt_of_le lt_b1_9 E63.1
  have lt_b1_11 : u1 < T67.heap.size := Nat.lt_of_lt_of_le lt_b1_10 K67c.1
  have lt_b1_12 : u1 < h85.size := Nat.lt_of_lt_of_le lt_b1_11 (Keep.of_wr W85).1
  have F14_96 : Fld Z T90.heap u1 "com/example/qedbox/qedbox/Known$Learnt" "anew" "Ljava/util/BitSet;" .null := F13_95.keep K90c (ninS (Nat.ne_of_lt (Nat.lt_of_lt_of_le lt_b1_12 (Nat.le_of_eq g86.symm))) nin0)
  have F12_97 : Fld Z h85 u1 "com/example/qedbox/qedbox/Known$Learnt" "values" "Ljava/util/List;" (.ref e1x) := F11_76.other W85 (Or.inr (slot_ne (Or.inr (tw hw 35 rfl)) (Or.inr (tw hw 79 rfl)) (by decide) (t := (.object "java/util/List")) (t' := (.object "java/util/BitSet")) (by decide) (by decide)))
  have F13_98 : Fld Z h86 u1 "com/example/qedbox/qedbox/Known$Learnt" "values" "Ljava/util/List;" (.ref e1x) := F12_97.ext E86
  have F14_99 : Fld Z T90.heap u1 "com/example/qedbox/qedbox/Known$Learnt" "values" "Ljava/util/List;" (.ref e1x) := F13_98.keep K90c (ninS (Nat.ne_of_lt (Nat.lt_of_lt_of_le lt_b1_12 (Nat.le_of_eq g86.symm))) nin0)
  have F12_100 : Fld Z h85 u1 "com/example/qedbox/qedbox/Known$Learnt" "places" "Ljava/util/Map;" (.ref e2x) := F11_79.other W85 (Or.inr (slot_ne (Or.inr (tw hw 53 rfl)) (Or.inr (tw hw 79 rfl)) (by decide) (t := (.object "java/util/Map")) (t' := (.object "java/util/BitSet")) (by decide) (by decide)))
  have F13_101 : Fld Z h86 u1 "com/example/qedbox/qedbox/Known$Learnt" "places" "Ljava/util/Map;" (.ref e2x) := F12_100.ext E86
  have F14_102 : Fld Z T90.heap u1 "com/example/qedbox/qedbox/Known$Learnt" "places" "Ljava/util/Map;" (.ref e2x) := F13_101.keep K90c (ninS (Nat.ne_of_lt (Nat.lt_of_lt_of_le lt_b1_12 (Nat.le_of_eq g86.symm))) nin0)
  have F12_103 : Fld Z h85 u1 "com/example/qedbox/qedbox/Known$Learnt" "guessed" "Ljava/util/BitSet;" (.ref e3x) := F11_81.other W85 (Or.inr (slot_ne (Or.inr (tw hw 77 rfl)) (Or.inr (tw hw 79 rfl)) (by decide) (t := (.object "java/util/BitSet")) (t' := (.object "java/util/BitSet")) (by decide) (by decide)))
  have F13_104 : Fld Z h86 u1 "com/example/qedbox/qedbox/Known$Learnt" "guessed" "Ljava/util/BitSet;" (.ref e3x) := F12_103.ext E86
  have F14_105 : Fld Z T90.heap u1 "com/example/qedbox/qedbox/Known$Learnt" "guessed" "Ljava/util/BitSet;" (.ref e3x) := F13_104.keep K90c (ninS (Nat.ne_of_lt (Nat.lt_of_lt_of_le lt_b1_12 (Nat.le_of_eq g86.symm))) nin0)
  have F13_106 : Fld Z h86 u1 "com/example/qedbox/qedbox/Known$Learnt" "dropped" "Ljava/util/BitSet;" (.ref e5x) := Fw85.ext E86
  have F14_107 : Fld Z T90.heap u1 "com/example/qedbox/qedbox/Known$Learnt" "dropped" "Ljava/util/BitSet;" (.ref e5x) := F13_106.keep K90c (ninS (Nat.ne_of_lt (Nat.lt_of_lt_of_le lt_b1_12 (Nat.le_of_eq g86.symm))) nin0)
  obtain ⟨T108, h108, X108, e108, W108, st108⟩ := putF X90 hx hZ hown (host := "") (Or.inl (tw hw 80 rfl)) Via.refl rfl F14_96 F14_93 (Or.inr ⟨(tw hw 81 rfl), rfl, hnm⟩) (tw hw 2 rfl) (ty := (.object "java/util/BitSet")) (by decide) rfl rfl (g := (mkF m 56 #[rv u1] [(.ref e7x), (.ref u1)])) rfl rfl (hb hby d1_56)
  have K108 : Keep h0 h108 [u1] := K90.wr W108 (Or.inl (List.mem_of_getElem? (i := 0) rfl))
  have N108 := Fr.snoc X108 N90 P10
  have Fw108 : Fld Z h108 u1 "com/example/qedbox/qedbox/Known$Learnt" "anew" "Ljava/util/BitSet;" (.ref e7x) := F14_96.same W108
  have F15_109 : Exa Z h108 u1 "com/example/qedbox/qedbox/Known$Learnt" := F14_93.wr W108
  have F15_110 : Fld Z h108 u1 "com/example/qedbox/qedbox/Known$Learnt" "values" "Ljava/util/List;" (.ref e1x) := F14_99.other W108 (Or.inr (slot_ne (Or.inr (tw hw 35 rfl)) (Or.inr (tw hw 81 rfl)) (by decide) (t := (.object "java/util/List")) (t' := (.object "java/util/BitSet")) (by decide) (by decide)))
  have F15_111 : Fld Z h108 u1 "com/example/qedbox/qedbox/Known$Learnt" "places" "Ljava/util/Map;" (.ref e2x) := F14_102.other W108 (Or.inr (slot_ne (Or.inr (tw hw 53 rfl)) (Or.inr (tw hw 81 rfl)) (by decide) (t := (.object "java/util/Map")) (t' := (.object "java/util/BitSet")) (by decide) (by decide)))
  have F15_112 : Fld Z h108 u1 "com/example/qedbox/qedbox/Known$Learnt" "guessed" "Ljava/util/BitSet;" (.ref e3x) := F14_105.other W108 (Or.inr (slot_ne (Or.inr (tw hw 77 rfl)) (Or.inr (tw hw 81 rfl)) (by decide) (t := (.object "java/util/BitSet")) (t' := (.object "java/util/BitSet")) (by decide) (by decide)))
  have F15_113 : Fld Z h108 u1 "com/example/qedbox/qedbox/Known$Learnt" "dropped" "Ljava/util/BitSet;" (.ref e5x) := F14_107.other W108 (Or.inr (slot_ne (Or.inr (tw hw 79 rfl)) (Or.inr (tw hw 81 rfl)) (by decide) (t := (.object "java/util/BitSet")) (t' := (.object "java/util/BitSet")) (by decide) (by decide)))
  have F3_114 : Exa Z h18 e1x "java/util/ArrayList" := Fq5_0.wr W18
  have F4_115 : Exa Z h19 e1x "java/util/ArrayList" := F3_114.ext E19
  have F5_116 : Exa Z T21.heap e1x "java/util/ArrayList" := F4_115.keep K21c
  have F6_117 : Exa Z h39 e1x "java/util/ArrayList" := F5_116.wr W39
  have F7_118 : Exa Z h40 e1x "java/util/ArrayList" := F6_117.ext E40
  have F8_119 : Exa Z T44.heap e1x "java/util/ArrayList" := F7_118.keep K44c
  have F9_120 : Exa Z h62 e1x "java/util/ArrayList" := F8_119.wr W62
  have F10_121 : Exa Z h63 e1x "java/util/ArrayList" := F9_120.ext E63
  have F11_122 : Exa Z T67.heap e1x "java/util/ArrayList" := F10_121.keep K67c
  have F12_123 : Exa Z h85 e1x "java/util/ArrayList" := F11_122.wr W85
  have F13_124 : Exa Z h86 e1x "java/util/ArrayList" := F12_123.ext E86
  have F14_125 : Exa Z T90.heap e1x "java/util/ArrayList" := F13_124.keep K90c
  have F15_126 : Exa Z h108 e1x "java/util/ArrayList" := F14_125.wr W108
  have F3_127 : Fld Z h18 e1x "java/util/AbstractList" "modCount" "I" (.int 0) := Fq5_1.other W18 (Or.inl (Ne.symm (Nat.ne_of_lt (Nat.lt_of_lt_of_le P5 (Nat.le_of_eq g2.symm)))))
  have F4_128 : Fld Z h19 e1x "java/util/AbstractList" "modCount" "I" (.int 0) := F3_127.ext E19
  have lt_b2_2 : e1x < T5.heap.size := Nat.lt_of_lt_of_le A2.lt K5c.1
  have lt_b2_3 : e1x < h18.size := Nat.lt_of_lt_of_le lt_b2_2 (Keep.of_wr W18).1
  have F5_129 : Fld Z T21.heap e1x "java/util/AbstractList" "modCount" "I" (.int 0) := F4_128.keep K21c (ninS (Nat.ne_of_lt (Nat.lt_of_lt_of_le lt_b2_3 (Nat.le_of_eq g19.symm))) nin0)
  have F6_130 : Fld Z h39 e1x "java/util/AbstractList" "modCount" "I" (.int 0) := F5_129.other W39 (Or.inl (Ne.symm (Nat.ne_of_lt (Nat.lt_of_lt_of_le P5 (Nat.le_of_eq g2.symm)))))
  have F7_131 : Fld Z h40 e1x "java/util/AbstractList" "modCount" "I" (.int 0) := F6_130.ext E40
  have lt_b2_4 : e1x < h19.size := Nat.lt_of_lt_of_le lt_b2_3 E19.1
  have lt_b2_5 : e1x < T21.heap.size := Nat.lt_of_lt_of_le lt_b2_4 K21c.1
  have lt_b2_6 : e1x < h39.size := Nat.lt_of_lt_of_le lt_b2_5 (Keep.of_wr W39).1
  have F8_132 : Fld Z T44.heap e1x "java/util/AbstractList" "modCount" "I" (.int 0) := F7_131.keep K44c (ninS (Nat.ne_of_lt (Nat.lt_of_lt_of_le lt_b2_6 (Nat.le_of_eq g40.symm))) nin0)
  have F9_133 : Fld Z h62 e1x "java/util/AbstractList" "modCount" "I" (.int 0) := F8_132.other W62 (Or.inl (Ne.symm (Nat.ne_of_lt (Nat.lt_of_lt_of_le P5 (Nat.le_of_eq g2.symm)))))
  have F10_134 : Fld Z h63 e1x "java/util/AbstractList" "modCount" "I" (.int 0) := F9_133.ext E63
  have lt_b2_7 : e1x < h40.size := Nat.lt_of_lt_of_le lt_b2_6 E40.1
  have lt_b2_8 : e1x < T44.heap.size := Nat.lt_of_lt_of_le lt_b2_7 K44c.1
  have lt_b2_9 : e1x < h62.size := Nat.lt_of_lt_of_le lt_b2_8 (Keep.of_wr W62).1
  have F11_135 : Fld Z T67.heap e1x "java/util/AbstractList" "modCount" "I" (.int 0) := F10_134.keep K67c (ninS (Nat.ne_of_lt (Nat.lt_of_lt_of_le lt_b2_9 (Nat.le_of_eq g63.symm))) nin0)
  have F12_136 : Fld Z h85 e1x "java/util/AbstractList" "modCount" "I" (.int 0) := F11_135.other W85 (Or.inl (Ne.symm (Nat.ne_of_lt (Nat.lt_of_lt_of_le P5 (Nat.le_of_eq g2.symm)))))
  have F13_137 : Fld Z h86 e1x "java/util/AbstractList" "modCount" "I" (.int 0) := F12_136.ext E86
  have lt_b2_10 : e1x < h63.size := Nat.lt_of_lt_of_le lt_b2_9 E63.1
  have lt_b2_11 : e1x < T67.heap.size := Nat.lt_of_lt_of_le lt_b2_10 K67c.1
  have lt_b2_12 : e1x < h85.size := Nat.lt_of_lt_of_le lt_b2_11 (Keep.of_wr W85).1
  have F14_138 : Fld Z T90.heap e1x "java/util/AbstractList" "modCount" "I" (.int 0) := F13_137.keep K90c (ninS (Nat.ne_of_lt (Nat.lt_of_lt_of_le lt_b2_12 (Nat.le_of_eq g86.symm))) nin0)
  have F15_139 : Fld Z h108 e1x "java/util/AbstractList" "modCount" "I" (.int 0) := F14_138.other W108 (Or.inl (Ne.symm (Nat.ne_of_lt (Nat.lt_of_lt_of_le P5 (Nat.le_of_eq g2.symm)))))
  have F3_140 : Fld Z h18 e1x "java/util/ArrayList" "elementData" "[Ljava/lang/Object;" (.ref w2) := Fq5_2.other W18 (Or.inl (Ne.symm (Nat.ne_of_lt (Nat.lt_of_lt_of_le P5 (Nat.le_of_eq g2.symm)))))
  have F4_141 : Fld Z h19 e1x "java/util/ArrayList" "elementData" "[Ljava/lang/Object;" (.ref w2) := F3_140.ext E19
  have F5_142 : Fld Z T21.heap e1x "java/util/ArrayList" "elementData" "[Ljava/lang/Object;" (.ref w2) := F4_141.keep K21c (ninS (Nat.ne_of_lt (Nat.lt_of_lt_of_le lt_b2_3 (Nat.le_of_eq g19.symm))) nin0)
  have F6_143 : Fld Z h39 e1x "java/util/ArrayList" "elementData" "[Ljava/lang/Object;" (.ref w2) := F5_142.other W39 (Or.inl (Ne.symm (Nat.ne_of_lt (Nat.lt_of_lt_of_le P5 (Nat.le_of_eq g2.symm)))))
  have F7_144 : Fld Z h40 e1x "java/util/ArrayList" "elementData" "[Ljava/lang/Object;" (.ref w2) := F6_143.ext E40
  have F8_145 : Fld Z T44.heap e1x "java/util/ArrayList" "elementData" "[Ljava/lang/Object;" (.ref w2) := F7_144.keep K44c (ninS (Nat.ne_of_lt (Nat.lt_of_lt_of_le lt_b2_6 (Nat.le_of_eq g40.symm))) nin0)
  have F9_146 : Fld Z h62 e1x "java/util/ArrayList" "elementData" "[Ljava/lang/Object;" (.ref w2) := F8_145.other W62 (Or.inl (Ne.symm (Nat.ne_of_lt (Nat.lt_of_lt_of_le P5 (Nat.le_of_eq g2.symm)))))
  have F10_147 : Fld Z h63 e1x "java/util/ArrayList" "elementData" "[Ljava/lang/Object;" (.ref w2) := F9_146.ext E63
  have F11_148 : Fld Z T67.heap e1x "java/util/ArrayList" "elementData" "[Ljava/lang/Object;" (.ref w2) := F10_147.keep K67c (ninS (Nat.ne_of_lt (Nat.lt_of_lt_of_le lt_b2_9 (Nat.le_of_eq g63.symm))) nin0)
  have F12_149 : Fld Z h85 e1x "java/util/ArrayList" "elementData" "[Ljava/lang/Object;" (.ref w2) := F11_148.other W85 (Or.inl (Ne.symm (Nat.ne_of_lt (Nat.lt_of_lt_of_le P5 (Nat.le_of_eq g2.symm)))))
  have F13_150 : Fld Z h86 e1x "java/util/ArrayList" "elementData" "[Ljava/lang/Object;" (.ref w2) := F12_149.ext E86
  have F14_151 : Fld Z T90.heap e1x "java/util/ArrayList" "elementData" "[Ljava/lang/Object;" (.ref w2) := F13_150.keep K90c (ninS (Nat.ne_of_lt (Nat.lt_of_lt_of_le lt_b2_12 (Nat.le_of_eq g86.symm))) nin0)
  have F15_152 : Fld Z h108 e1x "java/util/ArrayList" "elementData" "[Ljava/lang/Object;" (.ref w2) := F14_151.other W108 (Or.inl (Ne.symm (Nat.ne_of_lt (Nat.lt_of_lt_of_le P5 (Nat.le_of_eq g2.symm)))))
  have F6_153 : Exa Z h39 e2x "java/util/HashMap" := Fq21_0.wr W39
  have F7_154 : Exa Z h40 e2x "java/util/HashMap" := F6_153.ext E40
  have F8_155 : Exa Z T44.heap e2x "java/util/HashMap" := F7_154.keep K44c
  have F9_156 : Exa Z h62 e2x "java/util/HashMap" := F8_155.wr W62
  have F10_157 : Exa Z h63 e2x "java/util/HashMap" := F9_156.ext E63
  have F11_158 : Exa Z T67.heap e2x "java/util/HashMap" := F10_157.keep K67c
  have F12_159 : Exa Z h85 e2x "java/util/HashMap" := F11_158.wr W85
  have F13_160 : Exa Z h86 e2x "java/util/HashMap" := F12_159.ext E86
  have F14_161 : Exa Z T90.heap e2x "java/util/HashMap" := F13_160.keep K90c
  have F15_162 : Exa Z h108 e2x "java/util/HashMap" := F14_161.wr W108
  have F6_163 : Fld Z h39 e2x "java/util/HashMap" "loadFactor" "F" (.float (1061158912 : UInt32)) := Fq21_1.other W39 (Or.inl (Ne.symm (Nat.ne_of_lt (Nat.lt_of_lt_of_le lt_b1_3 (Nat.le_of_eq g19.symm)))))
  have F7_164 : Fld Z h40 e2x "java/util/HashMap" "loadFactor" "F" (.float (1061158912 : UInt32)) := F6_163.ext E40
  have lt_b3_5 : e2x < T21.heap.size := Nat.lt_of_lt_of_le A19.lt K21c.1
  have lt_b3_6 : e2x < h39.size := Nat.lt_of_lt_of_le lt_b3_5 (Keep.of_wr W39).1
  have F8_165 : Fld Z T44.heap e2x "java/util/HashMap" "loadFactor" "F" (.float (1061158912 : UInt32)) := F7_164.keep K44c (ninS (Nat.ne_of_lt (Nat.lt_of_lt_of_le lt_b3_6 (Nat.le_of_eq g40.symm))) nin0)
  have F9_166 : Fld Z h62 e2x "java/util/HashMap" "loadFactor" "F" (.float (1061158912 : UInt32)) := F8_165.other W62 (Or.inl (Ne.symm (Nat.ne_of_lt (Nat.lt_of_lt_of_le lt_b1_3 (Nat.le_of_eq g19.symm)))))
  have F10_167 : Fld Z h63 e2x "java/util/HashMap" "loadFactor" "F" (.float (1061158912 : UInt32)) := F9_166.ext E63
  have lt_b3_7 : e2x < h40.size := Nat.lt_of_lt_of_le lt_b3_6 E40.1
  have lt_b3_8 : e2x < T44.heap.size := Nat.lt_of_lt_of_le lt_b3_7 K44c.1
  have lt_b3_9 : e2x < h62.size := Nat.lt_of_lt_of_le lt_b3_8 (Keep.of_wr W62).1
  have F11_168 : Fld Z T67.heap e2x "java/util/HashMap" "loadFactor" "F" (.float (1061158912 : UInt32)) := F10_167.keep K67c (ninS (Nat.ne_of_lt (Nat.lt_of_lt_of_le lt_b3_9 (Nat.le_of_eq g63.symm))) nin0)
  have F12_169 : Fld Z h85 e2x "java/util/HashMap" "loadFactor" "F" (.float (1061158912 : UInt32)) := F11_168.other W85 (Or.inl (Ne.symm (Nat.ne_of_lt (Nat.lt_of_lt_of_le lt_b1_3 (Nat.le_of_eq g19.symm)))))
  have F13_170 : Fld Z h86 e2x "java/util/HashMap" "loadFactor" "F" (.float (1061158912 : UInt32)) := F12_169.ext E86
  have lt_b3_10 : e2x < h63.size := Nat.lt_of_lt_of_le lt_b3_9 E63.1
  have lt_b3_11 : e2x < T67.heap.size := Nat.lt_of_lt_of_le lt_b3_10 K67c.1
  have lt_b3_12 : e2x < h85.size := Nat.lt_of_lt_of_le lt_b3_11 (Keep.of_wr W85).1
  have F14_171 : Fld Z T90.heap e2x "java/util/HashMap" "loadFactor" "F" (.float (1061158912 : UInt32)) := F13_170.keep K90c (ninS (Nat.ne_of_lt (Nat.lt_of_lt_of_le lt_b3_12 (Nat.le_of_eq g86.symm))) nin0)
  have F15_172 : Fld Z h108 e2x "java/util/HashMap" "loadFactor" "F" (.float (1061158912 : UInt32)) := F14_171.other W108 (Or.inl (Ne.symm (Nat.ne_of_lt (Nat.lt_of_lt_of_le lt_b1_3 (Nat.le_of_eq g19.symm)))))
  have F9_173 : Exa Z h62 e3x "java/util/BitSet" := Fq44_0.wr W62
  have F10_174 : Exa Z h63 e3x "java/util/BitSet" := F9_173.ext E63
  have F11_175 : Exa Z T67.heap e3x "java/util/BitSet" := F10_174.keep K67c
  have F12_176 : Exa Z h85 e3x "java/util/BitSet" := F11_175.wr W85
  have F13_177 : Exa Z h86 e3x "java/util/BitSet" := F12_176.ext E86
  have F14_178 : Exa Z T90.heap e3x "java/util/BitSet" := F13_177.keep K90c
  have F15_179 : Exa Z h108 e3x "java/util/BitSet" := F14_178.wr W108
  have F9_180 : Fld Z h62 e3x "java/util/BitSet" "wordsInUse" "I" (.int 0) := Fq44_1.other W62 (Or.inl (Ne.symm (Nat.ne_of_lt (Nat.lt_of_lt_of_le lt_b1_6 (Nat.le_of_eq g40.symm)))))
  have F10_181 : Fld Z h63 e3x "java/util/BitSet" "wordsInUse" "I" (.int 0) := F9_180.ext E63
  have lt_b4_8 : e3x < T44.heap.size := Nat.lt_of_lt_of_le A40.lt K44c.1
  have lt_b4_9 : e3x < h62.size := Nat.lt_of_lt_of_le lt_b4_8 (Keep.of_wr W62).1
  have F11_182 : Fld Z T67.heap e3x "java/util/BitSet" "wordsInUse" "I" (.int 0) := F10_181.keep K67c (ninS (Nat.ne_of_lt (Nat.lt_of_lt_of_le lt_b4_9 (Nat.le_of_eq g63.symm))) nin0)
  have F12_183 : Fld Z h85 e3x "java/util/BitSet" "wordsInUse" "I" (.int 0) := F11_182.other W85 (Or.inl (Ne.symm (Nat.ne_of_lt (Nat.lt_of_lt_of_le lt_b1_6 (Nat.le_of_eq g40.symm)))))
  have F13_184 : Fld Z h86 e3x "java/util/BitSet" "wordsInUse" "I" (.int 0) := F12_183.ext E86
  have lt_b4_10 : e3x < h63.size := Nat.lt_of_lt_of_le lt_b4_9 E63.1
  have lt_b4_11 : e3x < T67.heap.size := Nat.lt_of_lt_of_le lt_b4_10 K67c.1
  have lt_b4_12 : e3x < h85.size := Nat.lt_of_lt_of_le lt_b4_11 (Keep.of_wr W85).1
  have F14_185 : Fld Z T90.heap e3x "java/util/BitSet" "wordsInUse" "I" (.int 0) := F13_184.keep K90c (ninS (Nat.ne_of_lt (Nat.lt_of_lt_of_le lt_b4_12 (Nat.le_of_eq g86.symm))) nin0)
  have F15_186 : Fld Z h108 e3x "java/util/BitSet" "wordsInUse" "I" (.int 0) := F14_185.other W108 (Or.inl (Ne.symm (Nat.ne_of_lt (Nat.lt_of_lt_of_le lt_b1_6 (Nat.le_of_eq g40.symm)))))
  have F9_187 : Fld Z h62 e3x "java/util/BitSet" "sizeIsSticky" "Z" (.int 0) := Fq44_2.other W62 (Or.inl (Ne.symm (Nat.ne_of_lt (Nat.lt_of_lt_of_le lt_b1_6 (Nat.le_of_eq g40.symm)))))
  have F10_188 : Fld Z h63 e3x "java/util/BitSet" "sizeIsSticky" "Z" (.int 0) := F9_187.ext E63
  have F11_189 : Fld Z T67.heap e3x "java/util/BitSet" "sizeIsSticky" "Z" (.int 0) := F10_188.keep K67c (ninS (Nat.ne_of_lt (Nat.lt_of_lt_of_le lt_b4_9 (Nat.le_of_eq g63.symm))) nin0)
  have F12_190 : Fld Z h85 e3x "java/util/BitSet" "sizeIsSticky" "Z" (.int 0) := F11_189.other W85 (Or.inl (Ne.symm (Nat.ne_of_lt (Nat.lt_of_lt_of_le lt_b1_6 (Nat.le_of_eq g40.symm)))))
  have F13_191 : Fld Z h86 e3x "java/util/BitSet" "sizeIsSticky" "Z" (.int 0) := F12_190.ext E86
  have F14_192 : Fld Z T90.heap e3x "java/util/BitSet" "sizeIsSticky" "Z" (.int 0) := F13_191.keep K90c (ninS (Nat.ne_of_lt (Nat.lt_of_lt_of_le lt_b4_12 (Nat.le_of_eq g86.symm))) nin0)
  have F15_193 : Fld Z h108 e3x "java/util/BitSet" "sizeIsSticky" "Z" (.int 0) := F14_192.other W108 (Or.inl (Ne.symm (Nat.ne_of_lt (Nat.lt_of_lt_of_le lt_b1_6 (Nat.le_of_eq g40.symm)))))
  have F9_194 : Fld Z h62 e3x "java/util/BitSet" "words" "[J" (.ref e4x) := Fq44_3.other W62 (Or.inl (Ne.symm (Nat.ne_of_lt (Nat.lt_of_lt_of_le lt_b1_6 (Nat.le_of_eq g40.symm)))))
  have F10_195 : Fld Z h63 e3x "java/util/BitSet" "words" "[J" (.ref e4x) := F9_194.ext E63
  have F11_196 : Fld Z T67.heap e3x "java/util/BitSet" "words" "[J" (.ref e4x) := F10_195.keep K67c (ninS (Nat.ne_of_lt (Nat.lt_of_lt_of_le lt_b4_9 (Nat.le_of_eq g63.symm))) nin0)
  have F12_197 : Fld Z h85 e3x "java/util/BitSet" "words" "[J" (.ref e4x) := F11_196.other W85 (Or.inl (Ne.symm (Nat.ne_of_lt (Nat.lt_of_lt_of_le lt_b1_6 (Nat.le_of_eq g40.symm)))))
  have F13_198 : Fld Z h86 e3x "java/util/BitSet" "words" "[J" (.ref e4x) := F12_197.ext E86
  have F14_199 : Fld Z T90.heap e3x "java/util/BitSet" "words" "[J" (.ref e4x) := F13_198.keep K90c (ninS (Nat.ne_of_lt (Nat.lt_of_lt_of_le lt_b4_12 (Nat.le_of_eq g86.symm))) nin0)
  have F15_200 : Fld Z h108 e3x "java/util/BitSet" "words" "[J" (.ref e4x) := F14_199.other W108 (Or.inl (Ne.symm (Nat.ne_of_lt (Nat.lt_of_lt_of_le lt_b1_6 (Nat.le_of_eq g40.symm)))))
  have F9_201 : Arv Z h62 e4x e9x .long (1 : Int32) [(.long 0)] (.long (0 : Int64)) := Fq44_4.other W62 (Ne.symm (Nat.ne_of_lt (Nat.lt_of_lt_of_le lt_b1_7 bz_b8)))
  have F10_202 : Arv Z h63 e4x e9x .long (1 : Int32) [(.long 0)] (.long (0 : Int64)) := F9_201.ext E63
  have lt_b8_9 : e4x < h62.size := Nat.lt_of_lt_of_le Fq44_4.lt (Keep.of_wr W62).1
  have F11_203 : Arv Z T67.heap e4x e9x .long (1 : Int32) [(.long 0)] (.long (0 : Int64)) := F10_202.keep K67c (ninS (Nat.ne_of_lt (Nat.lt_of_lt_of_le lt_b8_9 (Nat.le_of_eq g63.symm))) nin0)
  have F12_204 : Arv Z h85 e4x e9x .long (1 : Int32) [(.long 0)] (.long (0 : Int64)) := F11_203.other W85 (Ne.symm (Nat.ne_of_lt (Nat.lt_of_lt_of_le lt_b1_7 bz_b8)))
  have F13_205 : Arv Z h86 e4x e9x .long (1 : Int32) [(.long 0)] (.long (0 : Int64)) := F12_204.ext E86
  have lt_b8_10 : e4x < h63.size := Nat.lt_of_lt_of_le lt_b8_9 E63.1
  have lt_b8_11 : e4x < T67.heap.size := Nat.lt_of_lt_of_le lt_b8_10 K67c.1
  have lt_b8_12 : e4x < h85.size := Nat.lt_of_lt_of_le lt_b8_11 (Keep.of_wr W85).1
  have F14_206 : Arv Z T90.heap e4x e9x .long (1 : Int32) [(.long 0)] (.long (0 : Int64)) := F13_205.keep K90c (ninS (Nat.ne_of_lt (Nat.lt_of_lt_of_le lt_b8_12 (Nat.le_of_eq g86.symm))) nin0)
  have F15_207 : Arv Z h108 e4x e9x .long (1 : Int32) [(.long 0)] (.long (0 : Int64)) := F14_206.other W108 (Ne.symm (Nat.ne_of_lt (Nat.lt_of_lt_of_le lt_b1_7 bz_b8)))
  have F12_208 : Exa Z h85 e5x "java/util/BitSet" := Fq67_0.wr W85
  have F13_209 : Exa Z h86 e5x "java/util/BitSet" := F12_208.ext E86
  have F14_210 : Exa Z T90.heap e5x "java/util/BitSet" := F13_209.keep K90c
  have F15_211 : Exa Z h108 e5x "java/util/BitSet" := F14_210.wr W108
  have F12_212 : Fld Z h85 e5x "java/util/BitSet" "wordsInUse" "I" (.int 0) := Fq67_1.other W85 (Or.inl (Ne.symm (Nat.ne_of_lt (Nat.lt_of_lt_of_le lt_b1_9 (Nat.le_of_eq g63.symm)))))
  have F13_213 : Fld Z h86 e5x "java/util/BitSet" "wordsInUse" "I" (.int 0) := F12_212.ext E86
  have lt_b10_11 : e5x < T67.heap.size := Nat.lt_of_lt_of_le A63.lt K67c.1
  have lt_b10_12 : e5x < h85.size := Nat.lt_of_lt_of_le lt_b10_11 (Keep.of_wr W85).1
  have F14_214 : Fld Z T90.heap e5x "java/util/BitSet" "wordsInUse" "I" (.int 0) := F13_213.keep K90c (ninS (Nat.ne_of_lt (Nat.lt_of_lt_of_le lt_b10_12 (Nat.le_of_eq g86.symm))) nin0)
  have F15_215 : Fld Z h108 e5x "java/util/BitSet" "wordsInUse" "I" (.int 0) := F14_214.other W108 (Or.inl (Ne.symm (Nat.ne_of_lt (Nat.lt_of_lt_of_le lt_b1_9 (Nat.le_of_eq g63.symm)))))
  have F12_216 : Fld Z h85 e5x "java/util/BitSet" "sizeIsSticky" "Z" (.int 0) := Fq67_2.other W85 (Or.inl (Ne.symm (Nat.ne_of_lt (Nat.lt_of_lt_of_le lt_b1_9 (Nat.le_of_eq g63.symm)))))
  have F13_217 : Fld Z h86 e5x "java/util/BitSet" "sizeIsSticky" "Z" (.int 0) := F12_216.ext E86
  have F14_218 : Fld Z T90.heap e5x "java/util/BitSet" "sizeIsSticky" "Z" (.int 0) := F13_217.keep K90c (ninS (Nat.ne_of_lt (Nat.lt_of_lt_of_le lt_b10_12 (Nat.le_of_eq g86.symm))) nin0)
  have F15_219 : Fld Z h108 e5x "java/util/BitSet" "sizeIsSticky" "Z" (.int 0) := F14_218.other W108 (Or.inl (Ne.symm (Nat.ne_of_lt (Nat.lt_of_lt_of_le lt_b1_9 (Nat.le_of_eq g63.symm)))))
  have F12_220 : Fld Z h85 e5x "java/util/BitSet" "words" "[J" (.ref e6x) := Fq67_3.other W85 (Or.inl (Ne.symm (Nat.ne_of_lt (Nat.lt_of_lt_of_le lt_b1_9 (Nat.le_of_eq g63.symm)))))
  have F13_221 : Fld Z h86 e5x "java/util/BitSet" "words" "[J" (.ref e6x) := F12_220.ext E86
  have F14_222 : Fld Z T90.heap e5x "java/util/BitSet" "words" "[J" (.ref e6x) := F13_221.keep K90c (ninS (Nat.ne_of_lt (Nat.lt_of_lt_of_le lt_b10_12 (Nat.le_of_eq g86.symm))) nin0)
  have F15_223 : Fld Z h108 e5x "java/util/BitSet" "words" "[J" (.ref e6x) := F14_222.other W108 (Or.inl (Ne.symm (Nat.ne_of_lt (Nat.lt_of_lt_of_le lt_b1_9 (Nat.le_of_eq g63.symm)))))
  have F12_224 : Arv Z h85 e6x e10x .long (1 : Int32) [(.long 0)] (.long (0 : Int64)) := Fq67_4.other W85 (Ne.symm (Nat.ne_of_lt (Nat.lt_of_lt_of_le lt_b1_10 bz_b14)))
  have F13_225 : Arv Z h86 e6x e10x .long (1 : Int32) [(.long 0)] (.long (0 : Int64)) := F12_224.ext E86
  have lt_b14_12 : e6x < h85.size := Nat.lt_of_lt_of_le Fq67_4.lt (Keep.of_wr W85).1
  have F14_226 : Arv Z T90.heap e6x e10x .long (1 : Int32) [(.long 0)] (.long (0 : Int64)) := F13_225.keep K90c (ninS (Nat.ne_of_lt (Nat.lt_of_lt_of_le lt_b14_12 (Nat.le_of_eq g86.symm))) nin0)
  have F15_227 : Arv Z h108 e6x e10x .long (1 : Int32) [(.long 0)] (.long (0 : Int64)) := F14_226.other W108 (Ne.symm (Nat.ne_of_lt (Nat.lt_of_lt_of_le lt_b1_10 bz_b14)))
  have F15_228 : Exa Z h108 e7x "java/util/BitSet" := Fq90_0.wr W108
  have F15_229 : Fld Z h108 e7x "java/util/BitSet" "wordsInUse" "I" (.int 0) := Fq90_1.other W108 (Or.inl (Ne.symm (Nat.ne_of_lt (Nat.lt_of_lt_of_le lt_b1_12 (Nat.le_of_eq g86.symm)))))
  have F15_230 : Fld Z h108 e7x "java/util/BitSet" "sizeIsSticky" "Z" (.int 0) := Fq90_2.other W108 (Or.inl (Ne.symm (Nat.ne_of_lt (Nat.lt_of_lt_of_le lt_b1_12 (Nat.le_of_eq g86.symm)))))
  have F15_231 : Fld Z h108 e7x "java/util/BitSet" "words" "[J" (.ref e8x) := Fq90_3.other W108 (Or.inl (Ne.symm (Nat.ne_of_lt (Nat.lt_of_lt_of_le lt_b1_12 (Nat.le_of_eq g86.symm)))))
  have lt_b1_13 : u1 < h86.size := Nat.lt_of_lt_of_le lt_b1_12 E86.1
  have F15_232 : Arv Z h108 e8x e11x .long (1 : Int32) [(.long 0)] (.long (0 : Int64)) := Fq90_4.other W108 (Ne.symm (Nat.ne_of_lt (Nat.lt_of_lt_of_le lt_b1_13 bz_b20)))
  have sz0_b8 : h0.size ≤ e4x := Nat.le_trans K40.1 bz_b8
  have sz0_b14 : h0.size ≤ e6x := Nat.le_trans K63.1 bz_b14
  have sz0_b20 : h0.size ≤ e8x := Nat.le_trans K86.1 bz_b20
  have lt_b2_13 : e1x < h86.size := Nat.lt_of_lt_of_le lt_b2_12 E86.1
  have lt_b3_13 : e2x < h86.size := Nat.lt_of_lt_of_le lt_b3_12 E86.1
  have lt_b4_13 : e3x < h86.size := Nat.lt_of_lt_of_le lt_b4_12 E86.1
  have lt_b8_13 : e4x < h86.size := Nat.lt_of_lt_of_le lt_b8_12 E86.1
  have lt_b10_13 : e5x < h86.size := Nat.lt_of_lt_of_le lt_b10_12 E86.1
  have lt_b14_13 : e6x < h86.size := Nat.lt_of_lt_of_le lt_b14_12 E86.1
  obtain ⟨fs, hr, hrun, hended, hW, hsame⟩ := X108.leave (v := none) (fun _ => rfl)
  refine ⟨_, _, pre0 _ ?_, hrun, hended, _, _, rfl, ?_, ⟨_, rfl⟩, hW, hsame.mono (by decide) (by decide)⟩
  · show SF p e below s₁ (mkF m 0 #[rv u1] []) _
    refine XS.aloadN X0.here hx rfl (hb hby d1_0) rfl rfl ?_
    show SF p e below s₁ (mkF m 1 #[rv u1] [(.ref u1)]) _
    refine st1 _ ?_
    show SF p e below T1 (mkF m 4 #[rv u1] []) _
    refine XS.aloadN X1.here hx rfl (hb hby d1_4) rfl rfl ?_
    show SF p e below T1 (mkF m 5 #[rv u1] [(.ref u1)]) _
    refine st2 _ ?_
    show SF p e below T2 (mkF m 8 #[rv u1] [(.ref e1x), (.ref u1)]) _
    refine XS.dup X2.here hx rfl (hb hby d1_8) rfl rfl ?_
    show SF p e below T2 (mkF m 9 #[rv u1] [(.ref e1x), (.ref e1x), (.ref u1)]) _
    refine st5.trans ?_
    show SF p e below T5 (mkF m 12 #[rv u1] [(.ref e1x), (.ref u1)]) _
    refine st18 _ ?_
    show SF p e below T18 (mkF m 15 #[rv u1] []) _
    refine XS.aloadN X18.here hx rfl (hb hby d1_15) rfl rfl ?_
    show SF p e below T18 (mkF m 16 #[rv u1] [(.ref u1)]) _
    refine st19 _ ?_
    show SF p e below T19 (mkF m 19 #[rv u1] [(.ref e2x), (.ref u1)]) _
    refine XS.dup X19.here hx rfl (hb hby d1_19) rfl rfl ?_
    show SF p e below T19 (mkF m 20 #[rv u1] [(.ref e2x), (.ref e2x), (.ref u1)]) _
    refine st21.trans ?_
    show SF p e below T21 (mkF m 23 #[rv u1] [(.ref e2x), (.ref u1)]) _
    refine st39 _ ?_
    show SF p e below T39 (mkF m 26 #[rv u1] []) _
    refine XS.aloadN X39.here hx rfl (hb hby d1_26) rfl rfl ?_
    show SF p e below T39 (mkF m 27 #[rv u1] [(.ref u1)]) _
    refine st40 _ ?_
    show SF p e below T40 (mkF m 30 #[rv u1] [(.ref e3x), (.ref u1)]) _
    refine XS.dup X40.here hx rfl (hb hby d1_30) rfl rfl ?_
    show SF p e below T40 (mkF m 31 #[rv u1] [(.ref e3x), (.ref e3x), (.ref u1)]) _
    refine st44.trans ?_
    show SF p e below T44 (mkF m 34 #[rv u1] [(.ref e3x), (.ref u1)]) _
    refine st62 _ ?_
    show SF p e below T62 (mkF m 37 #[rv u1] []) _
    refine XS.aloadN X62.here hx rfl (hb hby d1_37) rfl rfl ?_
    show SF p e below T62 (mkF m 38 #[rv u1] [(.ref u1)]) _
    refine st63 _ ?_
    show SF p e below T63 (mkF m 41 #[rv u1] [(.ref e5x), (.ref u1)]) _
    refine XS.dup X63.here hx rfl (hb hby d1_41) rfl rfl ?_
    show SF p e below T63 (mkF m 42 #[rv u1] [(.ref e5x), (.ref e5x), (.ref u1)]) _
    refine st67.trans ?_
    show SF p e below T67 (mkF m 45 #[rv u1] [(.ref e5x), (.ref u1)]) _
    refine st85 _ ?_
    show SF p e below T85 (mkF m 48 #[rv u1] []) _
    refine XS.aloadN X85.here hx rfl (hb hby d1_48) rfl rfl ?_
    show SF p e below T85 (mkF m 49 #[rv u1] [(.ref u1)]) _
    refine st86 _ ?_
    show SF p e below T86 (mkF m 52 #[rv u1] [(.ref e7x), (.ref u1)]) _
    refine XS.dup X86.here hx rfl (hb hby d1_52) rfl rfl ?_
    show SF p e below T86 (mkF m 53 #[rv u1] [(.ref e7x), (.ref e7x), (.ref u1)]) _
    refine st90.trans ?_
    show SF p e below T90 (mkF m 56 #[rv u1] [(.ref e7x), (.ref u1)]) _
    refine st108 _ ?_
    show SF p e below T108 (mkF m 59 #[rv u1] []) _
    exact X108.returnOut hx Bd.returns (hb hby d1_59) hr
  · show Q1_13 Z u1 w2 h0 n0 _ T108.heap _
    rw [e108]
    exact ⟨e1x, e2x, e3x, e4x, e5x, e6x, e7x, e8x, e9x, e10x, e11x, sz0_b2, sz0_b3, sz0_b4, sz0_b8, sz0_b10, sz0_b14, sz0_b16, sz0_b20, (Nat.ne_of_lt (Nat.lt_of_lt_of_le lt_b2_3 (Nat.le_of_eq g19.symm))), (Nat.ne_of_lt (Nat.lt_of_lt_of_le lt_b2_6 (Nat.le_of_eq g40.symm))), (Nat.ne_of_lt (Nat.lt_of_lt_of_le lt_b2_7 bz_b8)), (Nat.ne_of_lt (Nat.lt_of_lt_of_le lt_b2_9 (Nat.le_of_eq g63.symm))), (Nat.ne_of_lt (Nat.lt_of_lt_of_le lt_b2_10 bz_b14)), (Nat.ne_of_lt (Nat.lt_of_lt_of_le lt_b2_12 (Nat.le_of_eq g86.symm))), (Nat.ne_of_lt (Nat.lt_of_lt_of_le lt_b2_13 bz_b20)), (Nat.ne_of_lt (Nat.lt_of_lt_of_le lt_b3_6 (Nat.le_of_eq g40.symm))), (Nat.ne_of_lt (Nat.lt_of_lt_of_le lt_b3_7 bz_b8)), (Nat.ne_of_lt (Nat.lt_of_lt_of_le lt_b3_9 (Nat.le_of_eq g63.symm))), (Nat.ne_of_lt (Nat.lt_of_lt_of_le lt_b3_10 bz_b14)), (Nat.ne_of_lt (Nat.lt_of_lt_of_le lt_b3_12 (Nat.le_of_eq g86.symm))), (Nat.ne_of_lt (Nat.lt_of_lt_of_le lt_b3_13 bz_b20)), (Nat.ne_of_lt (Nat.lt_of_lt_of_le A40.lt bz_b8)), (Nat.ne_of_lt (Nat.lt_of_lt_of_le lt_b4_9 (Nat.le_of_eq g63.symm))), (Nat.ne_of_lt (Nat.lt_of_lt_of_le lt_b4_10 bz_b14)), (Nat.ne_of_lt (Nat.lt_of_lt_of_le lt_b4_12 (Nat.le_of_eq g86.symm))), (Nat.ne_of_lt (Nat.lt_of_lt_of_le lt_b4_13 bz_b20)), (Nat.ne_of_lt (Nat.lt_of_lt_of_le lt_b8_9 (Nat.le_of_eq g63.symm))), (Nat.ne_of_lt (Nat.lt_of_lt_of_le lt_b8_10 bz_b14)), (Nat.ne_of_lt (Nat.lt_of_lt_of_le lt_b8_12 (Nat.le_of_eq g86.symm))), (Nat.ne_of_lt (Nat.lt_of_lt_of_le lt_b8_13 bz_b20)), (Nat.ne_of_lt (Nat.lt_of_lt_of_le A63.lt bz_b14)), (Nat.ne_of_lt (Nat.lt_of_lt_of_le lt_b10_12 (Nat.le_of_eq g86.symm))), (Nat.ne_of_lt (Nat.lt_of_lt_of_le lt_b10_13 bz_b20)), (Nat.ne_of_lt (Nat.lt_of_lt_of_le lt_b14_12 (Nat.le_of_eq g86.symm))), (Nat.ne_of_lt (Nat.lt_of_lt_of_le lt_b14_13 bz_b20)), (Nat.ne_of_lt (Nat.lt_of_lt_of_le A86.lt bz_b20)), rfl, N108, K108, F15_109, F15_110, F15_111, F15_112, F15_113, Fw108, F15_126, F15_139, F15_152, F15_162, F15_172, F15_179, F15_186, F15_193, F15_200, F15_207, F15_211, F15_215, F15_219, F15_223, F15_227, F15_228, F15_229, F15_230, F15_231, F15_232⟩
theorem d11_0 : decode prog_10_method_3_code 0 = .ok (.aload_n 0, 1) := by decide +kernel
theorem d11_1 : decode prog_10_method_3_code 1 = .ok (.getfield 30, 3) := by decide +kernel
theorem d11_4 : decode prog_10_method_3_code 4 = .ok (.iload_n 1, 1) := by decide +kernel
theorem d11_5 : decode prog_10_method_3_code 5 = .ok (.invokevirtual 44, 3) := by decide +kernel
theorem d12_0 : decode jdk_92_method_26_code 0 = .ok (.iload_n 1, 1) := by decide +kernel
theorem d12_1 : decode jdk_92_method_26_code 1 = .ok (.ifCond .ge 30, 3) := by decide +kernel
theorem d12_31 : decode jdk_92_method_26_code 31 = .ok (.aload_n 0, 1) := by decide +kernel
theorem d12_32 : decode jdk_92_method_26_code 32 = .ok (.invokevirtual 56, 3) := by decide +kernel
theorem d13_0 : decode jdk_92_method_2_code 0 = .ok (.getstatic 3, 3) := by decide +kernel
theorem d13_3 : decode jdk_92_method_2_code 3 = .ok (.ifCond .ne 34, 3) := by decide +kernel
theorem d13_37 : decode jdk_92_method_2_code 37 = .ok (.getstatic 3, 3) := by decide +kernel
theorem d13_40 : decode jdk_92_method_2_code 40 = .ok (.ifCond .ne 30, 3) := by decide +kernel
theorem d13_70 : decode jdk_92_method_2_code 70 = .ok (.getstatic 3, 3) := by decide +kernel
theorem d13_73 : decode jdk_92_method_2_code 73 = .ok (.ifCond .ne 37, 3) := by decide +kernel
theorem d13_110 : decode jdk_92_method_2_code 110 = .ok (.return_, 1) := by decide +kernel
theorem ef_9 (m : MethodId) (x0 : Addr) : entryFrame m #[(.ref x0)] 1 = mkF m 0 #[.val (.ref x0)] [] := by first | (simp [entryFrame, mkF, argsToLocals, Value.category]; done) | rfl
-- BitSet.checkInvariants 
def Q13_14 (Z : State) (u1 : Addr) (h0 : Heap) (n0 : Nat) (v : Option Value) (h : Heap) (L : List Loc) : Prop := v = none ∧ Fr n0 L ∧ h = h0
set_option maxRecDepth 65536 in
set_option maxHeartbeats 40000000 in
theorem rm13_14 (l : Launch) (Z : State) (a0 : Array Value) (hw : HW Z a0) (ws : List Jvm.Cond) (u1 : Addr) (h0 : Heap) (n0 : Nat) (Z0 : n0 ≤ h0.size) (Sg4 : Sta Z Z.heap "java/util/BitSet" "$assertionsDisabled" "Z" (.int 1)) (P2 : Old Z n0 h0) :
    MF l Z (⟨"java/util/BitSet", "checkInvariants", "()V"⟩ : MethodName) (Jvm.Cond.code (⟨"java/util/BitSet", "checkInvariants", "()V"⟩ : MethodName) jdk_92_method_2_code 1 none) ws ({ frames := 0, cells := 0, slots := 0, locals := 0 } : Room) #[(.ref u1)] h0 (Q13_14 Z u1 h0 n0) := by
  refine MetFree.of_bodySF (plainFor_of_name pn_5) hisR ?_
  intro p e s m args below meth c s₁ Bd hml0 hP hK
  obtain ⟨rfl, hZ, hh⟩ := hP
  have hx := Bd.exec
  have hby := Bd.bytes
  have hml : c.maxLocals = 1 := hml0
  have hown : s.vm.findClass "java/util/BitSet" = some m.cls := findClass_of_methodNamed Bd.named
  have hnm := (name_of_methodNamed Bd.named Bd.method).1
  have X0 : Stand p l e ({ frames := 0, cells := 0, slots := 0, locals := 0 } : Room) s m #[(.ref u1)] below meth c s₁ [] 0 0 := Stand.of_body Bd
  have e0 : s₁.heap = h0 := by rw [← hh, Bd.state]; rfl
  have N0 := Fr.nil n0
  have pre0 : ∀ t, SF p e below s₁ (mkF m 0 #[rv u1] []) t → SF p e below s₁ (entryFrame m #[(.ref u1)] 1) t := fun t k => castTop (ef_9 m u1) k
  obtain ⟨T1, X1, e1, st1⟩ := getS2 X0 hx hZ hown (host := "") (Or.inl (tw hw 97 rfl)) Via.refl e0 (Sg4.ext P2.2) (g := (mkF m 0 #[rv u1] [])) rfl (hb hby d13_0)
  obtain ⟨T2, X2, e2, st2⟩ := getS2 X1 hx hZ hown (host := "") (Or.inl (tw hw 97 rfl)) Via.refl e1 (Sg4.ext P2.2) (g := (mkF m 37 #[rv u1] [])) rfl (hb hby d13_37)
  obtain ⟨T3, X3, e3, st3⟩ := getS2 X2 hx hZ hown (host := "") (Or.inl (tw hw 97 rfl)) Via.refl e2 (Sg4.ext P2.2) (g := (mkF m 70 #[rv u1] [])) rfl (hb hby d13_70)
  obtain ⟨fs, hr, hrun, hended, hW, hsame⟩ := X3.leave (v := none) (fun _ => rfl)
  refine ⟨_, _, pre0 _ ?_, hrun, hended, _, _, rfl, ?_, ⟨_, rfl⟩, hW, hsame.mono (by decide) (by decide)⟩
  · show SF p e below s₁ (mkF m 0 #[rv u1] []) _
    refine st1 _ ?_
    show SF p e below T1 (mkF m 3 #[rv u1] [(.int 1)]) _
    refine XS.ifYes X1.here hx rfl (pc0 := 3) (pc' := 37) rfl (hb hby d13_3) rfl ((if0 _ _).trans (feq (by decide : ¬ ((1 : Int32) = (0 : Int32)))).2) (by decide) (by decide) ?_
    show SF p e below T1 (mkF m 37 #[rv u1] []) _
    refine st2 _ ?_
    show SF p e below T2 (mkF m 40 #[rv u1] [(.int 1)]) _
    refine XS.ifYes X2.here hx rfl (pc0 := 40) (pc' := 70) rfl (hb hby d13_40) rfl ((if0 _ _).trans (feq (by decide : ¬ ((1 : Int32) = (0 : Int32)))).2) (by decide) (by decide) ?_
    show SF p e below T2 (mkF m 70 #[rv u1] []) _
    refine st3 _ ?_
    show SF p e below T3 (mkF m 73 #[rv u1] [(.int 1)]) _
    refine XS.ifYes X3.here hx rfl (pc0 := 73) (pc' := 110) rfl (hb hby d13_73) rfl ((if0 _ _).trans (feq (by decide : ¬ ((1 : Int32) = (0 : Int32)))).2) (by decide) (by decide) ?_
    show SF p e below T3 (mkF m 110 #[rv u1] []) _
    exact X3.returnOut hx Bd.returns (hb hby d13_110) hr
  · show Q13_14 Z u1 h0 n0 _ T3.heap _
    rw [e3]
    exact ⟨rfl, N0, rfl⟩
theorem d12_35 : decode jdk_92_method_26_code 35 = .ok (.iload_n 1, 1) := by decide +kernel
theorem d12_36 : decode jdk_92_method_26_code 36 = .ok (.invokestatic 52, 3) := by decide +kernel
-- BitSet.wordIndex 
def Q10_15 (Z : State) (u1 : Int32) (h0 : Heap) (n0 : Nat) (v : Option Value) (h : Heap) (L : List Loc) : Prop := v = some (.int ((u1 &&& (2147483647 : Int32)) >>> ((6 : Int32) &&& 31))) ∧ Fr n0 L ∧ h = h0
set_option maxRecDepth 65536 in
set_option maxHeartbeats 40000000 in
theorem rm10_15 (l : Launch) (Z : State) (a0 : Array Value) (hw : HW Z a0) (ws : List Jvm.Cond) (u1 : Int32) (h0 : Heap) (n0 : Nat) (Z0 : n0 ≤ h0.size) :
    MF l Z (⟨"java/util/BitSet", "wordIndex", "(I)I"⟩ : MethodName) (Jvm.Cond.code (⟨"java/util/BitSet", "wordIndex", "(I)I"⟩ : MethodName) jdk_92_method_1_code 1 (some .int)) ws ({ frames := 0, cells := 0, slots := 0, locals := 0 } : Room) #[(.int (u1 &&& (2147483647 : Int32)))] h0 (Q10_15 Z u1 h0 n0) := by
  refine MetFree.of_bodySF (plainFor_of_name pn_5) hisR ?_
  intro p e s m args below meth c s₁ Bd hml0 hP hK
  obtain ⟨rfl, hZ, hh⟩ := hP
  have hx := Bd.exec
  have hby := Bd.bytes
  have hml : c.maxLocals = 1 := hml0
  have hown : s.vm.findClass "java/util/BitSet" = some m.cls := findClass_of_methodNamed Bd.named
  have hnm := (name_of_methodNamed Bd.named Bd.method).1
  have X0 : Stand p l e ({ frames := 0, cells := 0, slots := 0, locals := 0 } : Room) s m #[(.int (u1 &&& (2147483647 : Int32)))] below meth c s₁ [] 0 0 := Stand.of_body Bd
  have e0 : s₁.heap = h0 := by rw [← hh, Bd.state]; rfl
  have N0 := Fr.nil n0
  have pre0 : ∀ t, SF p e below s₁ (mkF m 0 #[iv (u1 &&& (2147483647 : Int32))] []) t → SF p e below s₁ (entryFrame m #[(.int (u1 &&& (2147483647 : Int32)))] 1) t := fun t k => castTop (ef_5 m (u1 &&& (2147483647 : Int32))) k
  obtain ⟨fs, hr, hrun, hended, hW, hsame⟩ := X0.leave (v := some (.int ((u1 &&& (2147483647 : Int32)) >>> ((6 : Int32) &&& 31)))) (fun h => by rw [Bd.returns] at h; cases h)
  refine ⟨_, _, pre0 _ ?_, hrun, hended, _, _, rfl, ?_, ⟨_, rfl⟩, hW, hsame.mono (by decide) (by decide)⟩
  · show SF p e below s₁ (mkF m 0 #[iv (u1 &&& (2147483647 : Int32))] []) _
    refine XS.iloadN X0.here hx rfl (hb hby d10_0) rfl ?_
    show SF p e below s₁ (mkF m 1 #[iv (u1 &&& (2147483647 : Int32))] [(.int (u1 &&& (2147483647 : Int32)))]) _
    refine XS.bipush X0.here hx rfl (hb hby d10_1) ?_
    show SF p e below s₁ (mkF m 3 #[iv (u1 &&& (2147483647 : Int32))] [(.int 6), (.int (u1 &&& (2147483647 : Int32)))]) _
    refine XS.ishr X0.here hx rfl (hb hby d10_3) rfl ?_
    show SF p e below s₁ (mkF m 4 #[iv (u1 &&& (2147483647 : Int32))] [(.int ((u1 &&& (2147483647 : Int32)) >>> ((6 : Int32) &&& 31)))]) _
    exact retI X0 hx Bd.returns (hb hby d10_4) hr
  · show Q10_15 Z u1 h0 n0 _ s₁.heap _
    rw [e0]
    exact ⟨rfl, N0, rfl⟩
theorem d12_39 : decode jdk_92_method_26_code 39 = .ok (.istore_n 2, 1) := by decide +kernel
theorem d12_40 : decode jdk_92_method_26_code 40 = .ok (.iload_n 2, 1) := by decide +kernel
theorem d12_41 : decode jdk_92_method_26_code 41 = .ok (.aload_n 0, 1) := by decide +kernel
theorem d12_42 : decode jdk_92_method_26_code 42 = .ok (.getfield 7, 3) := by decide +kernel
theorem d12_45 : decode jdk_92_method_26_code 45 = .ok (.if_icmp .ge 22, 3) := by decide +kernel
theorem d12_67 : decode jdk_92_method_26_code 67 = .ok (.iconst 0, 1) := by decide +kernel
theorem d12_68 : decode jdk_92_method_26_code 68 = .ok (.ireturn, 1) := by decide +kernel
theorem ef_10 (m : MethodId) (x0 : Addr) (x1 : Int32) : entryFrame m #[(.ref x0), (.int x1)] 3 = mkF m 0 #[.val (.ref x0), .val (.int x1), .unset] [] := by first | (simp [entryFrame, mkF, argsToLocals, Value.category]; done) | rfl
-- BitSet.get 
def Q12_16 (Z : State) (u1 : Addr) (u2 : Int32) (h0 : Heap) (n0 : Nat) (v : Option Value) (h : Heap) (L : List Loc) : Prop := v = some (.int 0) ∧ Fr n0 L ∧ h = h0
set_option maxRecDepth 65536 in
set_option maxHeartbeats 40000000 in
theorem rm12_16 (l : Launch) (Z : State) (a0 : Array Value) (hw : HW Z a0) (ws : List Jvm.Cond) (u1 : Addr) (u2 : Int32) (h0 : Heap) (n0 : Nat) (Z0 : n0 ≤ h0.size) (P1 : Exa Z h0 u1 "java/util/BitSet") (Sg4 : Sta Z Z.heap "java/util/BitSet" "$assertionsDisabled" "Z" (.int 1)) (P3 : Old Z n0 h0) (P4 : Fld Z h0 u1 "java/util/BitSet" "wordsInUse" "I" (.int 0)) :
    MF l Z (⟨"java/util/BitSet", "get", "(I)Z"⟩ : MethodName) (Jvm.Cond.code (⟨"java/util/BitSet", "get", "(I)Z"⟩ : MethodName) jdk_92_method_26_code 3 (some .boolean)) ws ({ frames := 1, cells := 0, slots := 0, locals := 12 } : Room) #[(.ref u1), (.int (u2 &&& (2147483647 : Int32)))] h0 (Q12_16 Z u1 u2 h0 n0) := by
  refine MetFree.of_bodySF (plainFor_of_name pn_5) hisR ?_
  intro p e s m args below meth c s₁ Bd hml0 hP hK
  obtain ⟨rfl, hZ, hh⟩ := hP
  have hx := Bd.exec
  have hby := Bd.bytes
  have hml : c.maxLocals = 3 := hml0
  have hown : s.vm.findClass "java/util/BitSet" = some m.cls := findClass_of_methodNamed Bd.named
  have hnm := (name_of_methodNamed Bd.named Bd.method).1
  have X0 : Stand p l e ({ frames := 1, cells := 0, slots := 0, locals := 12 } : Room) s m #[(.ref u1), (.int (u2 &&& (2147483647 : Int32)))] below meth c s₁ [] 0 0 := Stand.of_body Bd
  have e0 : s₁.heap = h0 := by rw [← hh, Bd.state]; rfl
  have N0 := Fr.nil n0
  have pre0 : ∀ t, SF p e below s₁ (mkF m 0 #[rv u1, iv (u2 &&& (2147483647 : Int32)), .unset] []) t → SF p e below s₁ (entryFrame m #[(.ref u1), (.int (u2 &&& (2147483647 : Int32)))] 3) t := fun t k => castTop (ef_10 m u1 (u2 &&& (2147483647 : Int32))) k
  obtain ⟨cq1, q1, q1'⟩ := P1.cell
  obtain ⟨_, _, ⟨T1, L1, k1x, n1⟩, -, X1, ⟨Lc1, hQ1, l1, y1, z1⟩, st1⟩ := X0.privateBack hx (y := (⟨"java/util/BitSet", "checkInvariants", "()V"⟩ : MethodName)) hown (mvT hZ (tw hw 92 rfl)) (mvT hZ (tw hw 93 rfl)) (mvT hZ (tw hw 95 rfl)) (Cond.privateMethod_at (mvP hZ (tw hw 94 rfl) (args := #[]))) (mvT hZ (tw hw 96 rfl)) (by decide) (backOf (W := 0) (rm13_14 l Z a0 hw [] u1 h0 n0 Z0 Sg4 P3) hZ (tw hw 96 rfl) (tw hw 56 rfl) (by decide) (by decide)) (g := (mkF m 32 #[rv u1, iv (u2 &&& (2147483647 : Int32)), .unset] [(.ref u1)])) rfl (by rw [hml]; rfl) (Steps.refl _) (a := u1) (by rw [e0]; exact q1) q1' (argsL := []) (rest := []) (lenOf pd_0 rfl) rfl (by show 2 * 0 + _ ≤ _; exact Nat.le_of_eq rfl) (hb hby d12_32) (fun _ _ => ⟨rfl, e0, (by decide : 0 + 0 ≤ _), (by decide : 0 + 0 ≤ _)⟩)
  dsimp only [Pt.U, Pt.locs, Pt.cells, Pt.slots] at X1 l1 y1 z1 st1 hQ1
  subst l1 y1 z1
  obtain ⟨rfl, N1q, e1⟩ := hQ1
  have N1 := Fr.app N0 N1q
  obtain ⟨_, _, ⟨T2, L2, k2x, n2⟩, -, X2, ⟨Lc2, hQ2, l2, y2, z2⟩, st2⟩ := Jvm.LawKit.callS X1 hx (y := (⟨"java/util/BitSet", "wordIndex", "(I)I"⟩ : MethodName)) hown (mvT hZ (tw hw 70 rfl)) (mvT hZ (tw hw 71 rfl)) (mvT hZ (tw hw 56 rfl)) (mvT hZ (tw hw 72 rfl)) (by decide) (backOf (W := 0) (rm10_15 l Z a0 hw [] u2 h0 n0 Z0 ) hZ (tw hw 72 rfl) (tw hw 56 rfl) (by decide) (by decide)) (g := (mkF m 36 #[rv u1, iv (u2 &&& (2147483647 : Int32)), .unset] [(.int (u2 &&& (2147483647 : Int32)))])) rfl (by rw [hml]; rfl) (argsL := [(.int (u2 &&& (2147483647 : Int32)))]) (rest := []) (lenOf pd_1 rfl) rfl (by show 2 * 0 + _ ≤ _; exact Nat.le_of_eq rfl) (hb hby d12_36) (fun _ _ => ⟨rfl, e1, (by decide : 0 + 0 ≤ _), (by decide : 0 + 0 ≤ _)⟩)
  dsimp only [Pt.U, Pt.locs, Pt.cells, Pt.slots] at X2 l2 y2 z2 st2 hQ2
  subst l2 y2 z2
  obtain ⟨rfl, N2q, e2⟩ := hQ2
  have N2 := Fr.app N1 N2q
  obtain ⟨T3, X3, e3, st3⟩ := getF X2 hx hZ hown (host := "") (Or.inl (tw hw 61 rfl)) Via.refl e2 P4 (g := (mkF m 42 #[rv u1, iv (u2 &&& (2147483647 : Int32)), iv ((u2 &&& (2147483647 : Int32)) >>> ((6 : Int32) &&& 31))] [(.ref u1), (.int ((u2 &&& (2147483647 : Int32)) >>> ((6 : Int32) &&& 31)))])) rfl rfl (hb hby d12_42)
  obtain ⟨fs, hr, hrun, hended, hW, hsame⟩ := X3.leave (v := some (.int 0)) (fun h => by rw [Bd.returns] at h; cases h)
  refine ⟨_, _, pre0 _ ?_, hrun, hended, _, _, rfl, ?_, ⟨_, rfl⟩, hW, hsame.mono (by decide) (by decide)⟩
  · show SF p e below s₁ (mkF m 0 #[rv u1, iv (u2 &&& (2147483647 : Int32)), .unset] []) _
    refine XS.iloadN X0.here hx rfl (hb hby d12_0) rfl ?_
    show SF p e below s₁ (mkF m 1 #[rv u1, iv (u2 &&& (2147483647 : Int32)), .unset] [(.int (u2 &&& (2147483647 : Int32)))]) _
    refine XS.ifYes X0.here hx rfl (pc0 := 1) (pc' := 31) rfl (hb hby d12_1) rfl ((if0 _ _).trans (flt (own_nn u2)).2.1) (by decide) (by decide) ?_
    show SF p e below s₁ (mkF m 31 #[rv u1, iv (u2 &&& (2147483647 : Int32)), .unset] []) _
    refine XS.aloadN X0.here hx rfl (hb hby d12_31) rfl rfl ?_
    show SF p e below s₁ (mkF m 32 #[rv u1, iv (u2 &&& (2147483647 : Int32)), .unset] [(.ref u1)]) _
    refine st1.trans ?_
    show SF p e below T1 (mkF m 35 #[rv u1, iv (u2 &&& (2147483647 : Int32)), .unset] []) _
    refine XS.iloadN X1.here hx rfl (hb hby d12_35) rfl ?_
    show SF p e below T1 (mkF m 36 #[rv u1, iv (u2 &&& (2147483647 : Int32)), .unset] [(.int (u2 &&& (2147483647 : Int32)))]) _
    refine st2 _ ?_
    show SF p e below T2 (mkF m 39 #[rv u1, iv (u2 &&& (2147483647 : Int32)), .unset] [(.int ((u2 &&& (2147483647 : Int32)) >>> ((6 : Int32) &&& 31)))]) _
    refine XS.istoreN X2.here hx rfl (hb hby d12_39) rfl (l' := #[rv u1, iv (u2 &&& (2147483647 : Int32)), iv ((u2 &&& (2147483647 : Int32)) >>> ((6 : Int32) &&& 31))]) rfl ?_
    show SF p e below T2 (mkF m 40 #[rv u1, iv (u2 &&& (2147483647 : Int32)), iv ((u2 &&& (2147483647 : Int32)) >>> ((6 : Int32) &&& 31))] []) _
    refine XS.iloadN X2.here hx rfl (hb hby d12_40) rfl ?_
    show SF p e below T2 (mkF m 41 #[rv u1, iv (u2 &&& (2147483647 : Int32)), iv ((u2 &&& (2147483647 : Int32)) >>> ((6 : Int32) &&& 31))] [(.int ((u2 &&& (2147483647 : Int32)) >>> ((6 : Int32) &&& 31)))]) _
    refine XS.aloadN X2.here hx rfl (hb hby d12_41) rfl rfl ?_
    show SF p e below T2 (mkF m 42 #[rv u1, iv (u2 &&& (2147483647 : Int32)), iv ((u2 &&& (2147483647 : Int32)) >>> ((6 : Int32) &&& 31))] [(.ref u1), (.int ((u2 &&& (2147483647 : Int32)) >>> ((6 : Int32) &&& 31)))]) _
    refine st3 _ ?_
    show SF p e below T3 (mkF m 45 #[rv u1, iv (u2 &&& (2147483647 : Int32)), iv ((u2 &&& (2147483647 : Int32)) >>> ((6 : Int32) &&& 31))] [(.int 0), (.int ((u2 &&& (2147483647 : Int32)) >>> ((6 : Int32) &&& 31)))]) _
    refine XS.icmpYes X3.here hx rfl (pc0 := 45) (pc' := 67) rfl (hb hby d12_45) rfl (flt (own_nw u2)).2.1 (by decide) (by decide) ?_
    show SF p e below T3 (mkF m 67 #[rv u1, iv (u2 &&& (2147483647 : Int32)), iv ((u2 &&& (2147483647 : Int32)) >>> ((6 : Int32) &&& 31))] []) _
    refine XS.iconst X3.here hx rfl (hb hby d12_67) ?_
    show SF p e below T3 (mkF m 68 #[rv u1, iv (u2 &&& (2147483647 : Int32)), iv ((u2 &&& (2147483647 : Int32)) >>> ((6 : Int32) &&& 31))] [(.int 0)]) _
    exact retN X3 hx (t := .boolean) Bd.returns (by simp) (hb hby d12_68) hr
  · show Q12_16 Z u1 u2 h0 n0 _ T3.heap _
    rw [e3]
    exact ⟨rfl, N2, rfl⟩
theorem pd_3 : parseMethodDescriptor "(I)Z" = some ⟨[.int], some .boolean⟩ := by decide +kernel
theorem d11_8 : decode prog_10_method_3_code 8 = .ok (.ifCond .ne 7, 3) := by decide +kernel
theorem d11_11 : decode prog_10_method_3_code 11 = .ok (.iconst 1, 1) := by decide +kernel
theorem d11_12 : decode prog_10_method_3_code 12 = .ok (.goto 4, 3) := by decide +kernel
theorem d11_16 : decode prog_10_method_3_code 16 = .ok (.ireturn, 1) := by decide +kernel
theorem ef_11 (m : MethodId) (x0 : Addr) (x1 : Int32) : entryFrame m #[(.ref x0), (.int x1)] 2 = mkF m 0 #[.val (.ref x0), .val (.int x1)] [] := by first | (simp [entryFrame, mkF, argsToLocals, Value.category]; done) | rfl
-- Known$Learnt.known 
def Q11_17 (Z : State) (u1 : Addr) (u2 : Int32) (u3 : Addr) (h0 : Heap) (n0 : Nat) (v : Option Value) (h : Heap) (L : List Loc) : Prop := v = some (.int 1) ∧ Fr n0 L ∧ h = h0
set_option maxRecDepth 65536 in
set_option maxHeartbeats 40000000 in
theorem rm11_17 (l : Launch) (Z : State) (a0 : Array Value) (hw : HW Z a0) (ws : List Jvm.Cond) (u1 : Addr) (u2 : Int32) (u3 : Addr) (h0 : Heap) (n0 : Nat) (Z0 : n0 ≤ h0.size) (P1 : Fld Z h0 u1 "com/example/qedbox/qedbox/Known$Learnt" "dropped" "Ljava/util/BitSet;" (.ref u3)) (P2 : Exa Z h0 u3 "java/util/BitSet") (Sg4 : Sta Z Z.heap "java/util/BitSet" "$assertionsDisabled" "Z" (.int 1)) (P4 : Old Z n0 h0) (P5 : Fld Z h0 u3 "java/util/BitSet" "wordsInUse" "I" (.int 0)) :
    MF l Z (⟨"com/example/qedbox/qedbox/Known$Learnt", "known", "(I)Z"⟩ : MethodName) (Jvm.Cond.code (⟨"com/example/qedbox/qedbox/Known$Learnt", "known", "(I)Z"⟩ : MethodName) prog_10_method_3_code 2 (some .boolean)) ws ({ frames := 2, cells := 0, slots := 0, locals := 26 } : Room) #[(.ref u1), (.int (u2 &&& (2147483647 : Int32)))] h0 (Q11_17 Z u1 u2 u3 h0 n0) := by
  refine MetFree.of_bodySF (plainFor_of_name pn_6) hisR ?_
  intro p e s m args below meth c s₁ Bd hml0 hP hK
  obtain ⟨rfl, hZ, hh⟩ := hP
  have hx := Bd.exec
  have hby := Bd.bytes
  have hml : c.maxLocals = 2 := hml0
  have hown : s.vm.findClass "com/example/qedbox/qedbox/Known$Learnt" = some m.cls := findClass_of_methodNamed Bd.named
  have hnm := (name_of_methodNamed Bd.named Bd.method).1
  have X0 : Stand p l e ({ frames := 2, cells := 0, slots := 0, locals := 26 } : Room) s m #[(.ref u1), (.int (u2 &&& (2147483647 : Int32)))] below meth c s₁ [] 0 0 := Stand.of_body Bd
  have e0 : s₁.heap = h0 := by rw [← hh, Bd.state]; rfl
  have N0 := Fr.nil n0
  have pre0 : ∀ t, SF p e below s₁ (mkF m 0 #[rv u1, iv (u2 &&& (2147483647 : Int32))] []) t → SF p e below s₁ (entryFrame m #[(.ref u1), (.int (u2 &&& (2147483647 : Int32)))] 2) t := fun t k => castTop (ef_11 m u1 (u2 &&& (2147483647 : Int32))) k
  obtain ⟨T1, X1, e1, st1⟩ := getF X0 hx hZ hown (host := "") (Or.inl (tw hw 78 rfl)) Via.refl e0 P1 (g := (mkF m 1 #[rv u1, iv (u2 &&& (2147483647 : Int32))] [(.ref u1)])) rfl rfl (hb hby d11_1)
  obtain ⟨cq2, kq2, q2a, q2b, q2c⟩ := isOf hZ e1 P2
  obtain ⟨_, _, ⟨T2, L2, k2x, n2⟩, -, X2, ⟨Lc2, hQ2, l2, y2, z2⟩, st2⟩ := X1.virtualBack hx (y := (⟨"java/util/BitSet", "get", "(I)Z"⟩ : MethodName)) (z := (⟨"java/util/BitSet", "get", "(I)Z"⟩ : MethodName)) hown (mvT hZ (tw hw 87 rfl)) (mvT hZ (tw hw 88 rfl)) (notFace_of_selects (args := #[]) (mvT hZ (tw hw 90 rfl))) (mvT hZ (tw hw 90 rfl)) (mvT hZ (tw hw 89 rfl)) (by decide) (backOf (W := 0) (rm12_16 l Z a0 hw [] u3 u2 h0 n0 Z0 P2 Sg4 P4 P5) hZ (tw hw 91 rfl) (tw hw 56 rfl) (by decide) (by decide)) q2a q2c (g := (mkF m 5 #[rv u1, iv (u2 &&& (2147483647 : Int32))] [(.int (u2 &&& (2147483647 : Int32))), (.ref u3)])) rfl (by rw [hml]; rfl) (Steps.refl _) (argsL := [(.int (u2 &&& (2147483647 : Int32)))]) (rest := []) (lenOf pd_3 rfl) rfl (by show 2 * 0 + _ ≤ _; exact Nat.le_of_eq rfl) (hb hby d11_5) (fun _ _ => ⟨rfl, e1, (by decide : 0 + 0 ≤ _), (by decide : 0 + 0 ≤ _)⟩)
  dsimp only [Pt.U, Pt.locs, Pt.cells, Pt.slots] at X2 l2 y2 z2 st2 hQ2
  subst l2 y2 z2
  obtain ⟨rfl, N2q, e2⟩ := hQ2
  have N2 := Fr.app N0 N2q
  obtain ⟨fs, hr, hrun, hended, hW, hsame⟩ := X2.leave (v := some (.int 1)) (fun h => by rw [Bd.returns] at h; cases h)
  refine ⟨_, _, pre0 _ ?_, hrun, hended, _, _, rfl, ?_, ⟨_, rfl⟩, hW, hsame.mono (by decide) (by decide)⟩
  · show SF p e below s₁ (mkF m 0 #[rv u1, iv (u2 &&& (2147483647 : Int32))] []) _
    refine XS.aloadN X0.here hx rfl (hb hby d11_0) rfl rfl ?_
    show SF p e below s₁ (mkF m 1 #[rv u1, iv (u2 &&& (2147483647 : Int32))] [(.ref u1)]) _
    refine st1 _ ?_
    show SF p e below T1 (mkF m 4 #[rv u1, iv (u2 &&& (2147483647 : Int32))] [(.ref u3)]) _
    refine XS.iloadN X1.here hx rfl (hb hby d11_4) rfl ?_
    show SF p e below T1 (mkF m 5 #[rv u1, iv (u2 &&& (2147483647 : Int32))] [(.int (u2 &&& (2147483647 : Int32))), (.ref u3)]) _
    refine st2.trans ?_
    show SF p e below T2 (mkF m 8 #[rv u1, iv (u2 &&& (2147483647 : Int32))] [(.int 0)]) _
    refine XS.ifNo X2.here hx rfl (hb hby d11_8) rfl ((if0 _ _).trans (teq (by decide : (0 : Int32) = (0 : Int32))).2) ?_
    show SF p e below T2 (mkF m 11 #[rv u1, iv (u2 &&& (2147483647 : Int32))] []) _
    refine XS.iconst X2.here hx rfl (hb hby d11_11) ?_
    show SF p e below T2 (mkF m 12 #[rv u1, iv (u2 &&& (2147483647 : Int32))] [(.int 1)]) _
    refine XS.goto X2.here hx rfl (pc0 := 12) (pc' := 16) rfl (hb hby d11_12) (by decide) (by decide) ?_
    show SF p e below T2 (mkF m 16 #[rv u1, iv (u2 &&& (2147483647 : Int32))] [(.int 1)]) _
    exact retN X2 hx (t := .boolean) Bd.returns (by simp) (hb hby d11_16) hr
  · show Q11_17 Z u1 u2 u3 h0 n0 _ T2.heap _
    rw [e2]
    exact ⟨rfl, N2, rfl⟩
theorem pn_7 : plainName "com/example/qedbox/qedbox/LearntKnownPinLaw" = true := by first | (simp [plainName, overriddenIn]; done) | decide +kernel
theorem ef_12 (m : MethodId) (x0 : Int32) : entryFrame m #[(.int x0)] maxLocals = mkF m 0 #[.val (.int x0), .unset, .unset] [] := by first | (simp [entryFrame, mkF, argsToLocals, Value.category, maxLocals]; done) | rfl
set_option maxRecDepth 65536 in
set_option maxHeartbeats 400000000 in
theorem rm0 (l : Launch) (Z : State) (a0 : Array Value) (hw : HW Z a0) (ws : List Jvm.Cond) (p0s : Int32) (w1 : Addr) (w2 : Addr) (kw1 : ClassId) (kw2 : ClassId) (h0 : Heap) (n0 : Nat) (Z0 : n0 ≤ h0.size) (O0 : Old Z n0 h0) (Sg0 : Sta Z Z.heap "java/util/ArrayList" "EMPTY_ELEMENTDATA" "[Ljava/lang/Object;" (.ref w1)) (E_w1 : Exa Z Z.heap w1 "[Ljava/lang/Object;") (Sg2 : Sta Z Z.heap "java/util/ArrayList" "DEFAULTCAPACITY_EMPTY_ELEMENTDATA" "[Ljava/lang/Object;" (.ref w2)) (E_w2 : Exa Z Z.heap w2 "[Ljava/lang/Object;") (Sg4 : Sta Z Z.heap "java/util/BitSet" "$assertionsDisabled" "Z" (.int 1)) (V_w1 : Arv Z Z.heap w1 kw1 (.object "java/lang/Object") (0 : Int32) [] .null) (V_w2 : Arv Z Z.heap w2 kw2 (.object "java/lang/Object") (0 : Int32) [] .null) :
    MF l Z x (Jvm.Cond.code x code maxLocals ret) ws room_1 #[(.int p0s)] h0 (fun v _ L => v = some (.int (1 : Int32)) ∧ Fr n0 L) := by
  refine MetFree.of_bodySF (plainFor_of_name pn_7) hisR ?_
  intro p e s m args below meth c s₁ Bd hml0 hP hK
  obtain ⟨rfl, hZ, hh⟩ := hP
  have hx := Bd.exec
  have hby := Bd.bytes
  have hml : c.maxLocals = 3 := hml0
  have hown : s.vm.findClass "com/example/qedbox/qedbox/LearntKnownPinLaw" = some m.cls := findClass_of_methodNamed Bd.named
  have hnm := (name_of_methodNamed Bd.named Bd.method).1
  have X0 : Stand p l e room_1 s m #[(.int p0s)] below meth c s₁ [] 0 0 := Stand.of_body Bd
  have e0 : s₁.heap = h0 := by rw [← hh, Bd.state]; rfl
  have N0 := Fr.nil n0
  have pre0 : ∀ t, SF p e below s₁ (mkF m 0 #[iv p0s, .unset, .unset] []) t → SF p e below s₁ (entryFrame m #[(.int p0s)] maxLocals) t := fun t k => castTop (ef_12 m p0s) k
  have hre := Bd.returns
  have hlk : meth.locks = false := by first | assumption | exact BodyLoose.notSynchronized Bd | exact Body.notSynchronized Bd
  show Fin p e below s n0 _
  obtain ⟨T1, h1, X1, e1, E1, A1, D1, -, st1⟩ := newO X0 hx hZ hown (tw hw 1 rfl) (tw hw 2 rfl) (tw hw 3 rfl) e0 (g := (mkF m 5 #[iv p0s, iv (p0s &&& (2147483647 : Int32)), .unset] [])) rfl (hb hby at_5) (by decide) (by decide)
  obtain ⟨b1, g1⟩ : ∃ z, z = h0.size := ⟨_, rfl⟩
  rw [← g1] at A1 D1 st1
  have Fn2 : Fld Z h1 b1 "com/example/qedbox/qedbox/Known$Learnt" "values" "Ljava/util/List;" .null := D1 (Or.inr (tw hw 35 rfl)) (ty := (.object "java/util/List")) (by decide)
  have Fn3 : Fld Z h1 b1 "com/example/qedbox/qedbox/Known$Learnt" "places" "Ljava/util/Map;" .null := D1 (Or.inr (tw hw 53 rfl)) (ty := (.object "java/util/Map")) (by decide)
  have Fn4 : Fld Z h1 b1 "com/example/qedbox/qedbox/Known$Learnt" "guessed" "Ljava/util/BitSet;" .null := D1 (Or.inr (tw hw 77 rfl)) (ty := (.object "java/util/BitSet")) (by decide)
  have Fn5 : Fld Z h1 b1 "com/example/qedbox/qedbox/Known$Learnt" "dropped" "Ljava/util/BitSet;" .null := D1 (Or.inr (tw hw 79 rfl)) (ty := (.object "java/util/BitSet")) (by decide)
  have Fn6 : Fld Z h1 b1 "com/example/qedbox/qedbox/Known$Learnt" "anew" "Ljava/util/BitSet;" .null := D1 (Or.inr (tw hw 81 rfl)) (ty := (.object "java/util/BitSet")) (by decide)
  have O1 : Old Z n0 h1 := O0.ext E1
  have g_b1 : n0 ≤ b1 := Nat.le_trans Z0 (Nat.le_of_eq g1.symm)
  have Z1 : n0 ≤ h1.size := Nat.le_trans Z0 E1.1
  obtain ⟨_, _, ⟨T7, L7, k7x, n7⟩, -, X7, ⟨Lc7, hQ7, l7, y7, z7⟩, st7⟩ := X1.specialBack hx (y := (⟨"com/example/qedbox/qedbox/Known$Learnt", "<init>", "()V"⟩ : MethodName)) rfl hown (mvT hZ (tw hw 4 rfl)) (mvT hZ (tw hw 5 rfl)) (mvT hZ (tw hw 6 rfl)) (by decide) (backOf (W := 1) (rm1_13 l Z a0 hw [] b1 w2 h1 n0 Z1 Sg2 O1 A1 Fn2 A1.lt Fn3 Fn4 Fn5 Fn6 g_b1) hZ (tw hw 6 rfl) (tw hw 3 rfl) (by decide) (by decide)) (g := (mkF m 9 #[iv p0s, iv (p0s &&& (2147483647 : Int32)), .unset] [(.ref b1), (.ref b1)])) rfl (by rw [hml]; rfl) (Steps.refl _) (a := b1) (argsL := []) (rest := [(.ref b1)]) (lenOf pd_0 rfl) rfl (by show 2 * 0 + _ ≤ _; exact Nat.le_of_eq rfl) (hb hby at_9) (fun _ _ => ⟨rfl, e1, (by decide : 1 + 8 ≤ _), (by decide : 5 + 23 ≤ _)⟩)
  dsimp only [Pt.U, Pt.locs, Pt.cells, Pt.slots] at X7 l7 y7 z7 st7 hQ7
  subst l7 y7 z7
  obtain ⟨b22, b23, b24, b25, b26, b27, b28, b29, k30, k31, k32, bz_b22, bz_b23, bz_b24, bz_b25, bz_b26, bz_b27, bz_b28, bz_b29, bn7_0, bn7_1, bn7_2, bn7_3, bn7_4, bn7_5, bn7_6, bn7_7, bn7_8, bn7_9, bn7_10, bn7_11, bn7_12, bn7_13, bn7_14, bn7_15, bn7_16, bn7_17, bn7_18, bn7_19, bn7_20, bn7_21, bn7_22, bn7_23, bn7_24, bn7_25, bn7_26, bn7_27, rfl, N7q, K7c, Fq7_0, Fq7_1, Fq7_2, Fq7_3, Fq7_4, Fq7_5, Fq7_6, Fq7_7, Fq7_8, Fq7_9, Fq7_10, Fq7_11, Fq7_12, Fq7_13, Fq7_14, Fq7_15, Fq7_16, Fq7_17, Fq7_18, Fq7_19, Fq7_20, Fq7_21, Fq7_22, Fq7_23, Fq7_24, Fq7_25⟩ := hQ7
  have N7 := Fr.app N0 N7q
  have O7 : Old Z n0 T7.heap := O1.keep K7c (allS g_b1 all0)
  have Z7 : n0 ≤ T7.heap.size := Nat.le_trans Z1 K7c.1
  obtain ⟨cq8, kq8, q8a, q8b, q8c⟩ := isOf hZ rfl Fq7_0
  obtain ⟨_, _, ⟨T8, L8, k8x, n8⟩, -, X8, ⟨Lc8, hQ8, l8, y8, z8⟩, st8⟩ := X7.virtualBack hx (y := (⟨"com/example/qedbox/qedbox/Known$Learnt", "known", "(I)Z"⟩ : MethodName)) (z := (⟨"com/example/qedbox/qedbox/Known$Learnt", "known", "(I)Z"⟩ : MethodName)) hown (mvT hZ (tw hw 82 rfl)) (mvT hZ (tw hw 83 rfl)) (notFace_of_selects (args := #[]) (mvT hZ (tw hw 85 rfl))) (mvT hZ (tw hw 85 rfl)) (mvT hZ (tw hw 84 rfl)) (by decide) (backOf (W := 0) (rm11_17 l Z a0 hw [] b1 p0s b26 T7.heap n0 Z7 Fq7_4 Fq7_16 Sg4 O7 Fq7_17) hZ (tw hw 86 rfl) (tw hw 3 rfl) (by decide) (by decide)) q8a q8c (g := (mkF m 15 #[iv p0s, iv (p0s &&& (2147483647 : Int32)), rv b1] [(.int (p0s &&& (2147483647 : Int32))), (.ref b1)])) rfl (by rw [hml]; rfl) (Steps.refl _) (argsL := [(.int (p0s &&& (2147483647 : Int32)))]) (rest := []) (lenOf pd_3 rfl) rfl (by show 2 * 0 + _ ≤ _; exact Nat.le_of_eq rfl) (hb hby at_15) (fun _ _ => ⟨rfl, rfl, (by decide : 9 + 0 ≤ _), (by decide : 28 + 0 ≤ _)⟩)
  dsimp only [Pt.U, Pt.locs, Pt.cells, Pt.slots] at X8 l8 y8 z8 st8 hQ8
  subst l8 y8 z8
  obtain ⟨rfl, N8q, e8⟩ := hQ8
  have N8 := Fr.app N7 N8q
  obtain ⟨fs, hr, hrun, hended, hW, hsame⟩ := X8.leave (v := some (.int (1 : Int32))) (fun h => by rw [hre] at h; cases h)
  refine ⟨_, _, pre0 _ (?_), hrun, hended, _, _, rfl, ?_, ⟨_, rfl⟩, hW, hsame.mono (by decide) (by decide)⟩
  · show SF p e below s₁ (mkF m 0 #[iv p0s, .unset, .unset] []) _
    refine XS.iloadN X0.here hx rfl (hb hby at_0) rfl ?_
    show SF p e below s₁ (mkF m 1 #[iv p0s, .unset, .unset] [(.int p0s)]) _
    refine X0.ldcInt hx hown (mvT hZ (tw hw 0 rfl)) (g := (mkF m 1 #[iv p0s, .unset, .unset] [(.int p0s)])) rfl (hb hby at_1) _ ?_
    show SF p e below s₁ (mkF m 3 #[iv p0s, .unset, .unset] [(.int 2147483647), (.int p0s)]) _
    refine XS.iand X0.here hx rfl (hb hby at_3) rfl ?_
    show SF p e below s₁ (mkF m 4 #[iv p0s, .unset, .unset] [(.int (p0s &&& (2147483647 : Int32)))]) _
    refine XS.istoreN X0.here hx rfl (hb hby at_4) rfl (l' := #[iv p0s, iv (p0s &&& (2147483647 : Int32)), .unset]) rfl ?_
    show SF p e below s₁ (mkF m 5 #[iv p0s, iv (p0s &&& (2147483647 : Int32)), .unset] []) _
    refine st1 _ ?_
    show SF p e below T1 (mkF m 8 #[iv p0s, iv (p0s &&& (2147483647 : Int32)), .unset] [(.ref b1)]) _
    refine XS.dup X1.here hx rfl (hb hby at_8) rfl rfl ?_
    show SF p e below T1 (mkF m 9 #[iv p0s, iv (p0s &&& (2147483647 : Int32)), .unset] [(.ref b1), (.ref b1)]) _
    refine st7.trans ?_
    show SF p e below T7 (mkF m 12 #[iv p0s, iv (p0s &&& (2147483647 : Int32)), .unset] [(.ref b1)]) _
    refine XS.astoreN X7.here hx rfl (hb hby at_12) rfl rfl (l' := #[iv p0s, iv (p0s &&& (2147483647 : Int32)), rv b1]) rfl ?_
    show SF p e below T7 (mkF m 13 #[iv p0s, iv (p0s &&& (2147483647 : Int32)), rv b1] []) _
    refine XS.aloadN X7.here hx rfl (hb hby at_13) rfl rfl ?_
    show SF p e below T7 (mkF m 14 #[iv p0s, iv (p0s &&& (2147483647 : Int32)), rv b1] [(.ref b1)]) _
    refine XS.iloadN X7.here hx rfl (hb hby at_14) rfl ?_
    show SF p e below T7 (mkF m 15 #[iv p0s, iv (p0s &&& (2147483647 : Int32)), rv b1] [(.int (p0s &&& (2147483647 : Int32))), (.ref b1)]) _
    refine st8.trans ?_
    show SF p e below T8 (mkF m 18 #[iv p0s, iv (p0s &&& (2147483647 : Int32)), rv b1] [(.int 1)]) _
    exact retN X8 hx (t := .boolean) hre (by simp) (hb hby at_18) hr
  · exact ⟨rfl, N8⟩
set_option maxRecDepth 65536 in
set_option maxHeartbeats 40000000 in
theorem comes_1 {Post : Tables → Env → Array Value → State → Outcome → State → Prop} (hpost : ∀ tb e args s v u, (limb_1_1.after args s (.returned v) u = true ∧ limb_1_2.after args s (.returned v) u = true ∧ True) → FrameEnd s (.returned v) u (Jvm.fieldLocs frame_1_writes args s ++ Jvm.arrayLocs frame_1_arrays args s ++ Jvm.staticLocs frame_1_statics s) 32 128 → Post tb e args s (.returned v) u) :
    ArmFor flags0 classFile x code maxLocals ret World_1 tables_1 room_1 Calls_1 rest_1 Pre_1 Post := by
  intro l hfl _ _ p e ha hc hk s m args below hf hA hF happ hP
  obtain ⟨hcalls, hrest, hpre⟩ := hP
  obtain ⟨-, -, -, hnamed, -, -, -, hat⟩ := (Spec.applies_iff hf).mp happ
  obtain ⟨hg, hn⟩ := and_e (Cond.before_iff.mp (show (Jvm.Cond.and given_1 narrow_1).before args s = true from hpre))
  obtain ⟨gv0, gr0⟩ := and_e hg
  have gv1 := gr0
  obtain ⟨av0, rfl⟩ : ∃ av0 : Value, args = #[av0] := by
    have hs : args.size = 1 := by simpa [Cond.value, given_1] using gv0
    obtain ⟨L⟩ := args
    match L, hs with
    | [av0], _ => exact ⟨av0, rfl⟩
  have hw := fun d (hd : d ∈ tables_1) => atoms_spec (ws := Jvm.Cond.code x code maxLocals ret :: tables_1) hat d (List.mem_cons_of_mem _ hd)
  have hfit : Fit s := fun {y c} hc i hi => by
    obtain ⟨ha, rfl⟩ := Array.getElem?_eq_some_iff.mp hc
    have q := List.all_eq_true.mp ((Array.all_eq_true_iff_forall_mem.mp hF) _ (Array.getElem_mem ha)) i (List.mem_range.mpr hi)
    simpa [Array.getElem?_eq_getElem hi] using q
  obtain ⟨hsets, hown0⟩ := atoms_of _ (rest_1_c_eq ▸ (show rest_1_c.before _ s = true from hrest))
  obtain ⟨p0s, ei0⟩ := is_v gv1
  obtain rfl : av0 = (.int p0s) := Option.some.inj ei0
  obtain ⟨w1, ev_w1⟩ := arr_v (Cond.before_iff.mp (hsets _ (List.mem_of_getElem? (i := 3) rfl)))
  have Sg0 : Sta s s.heap "java/util/ArrayList" "EMPTY_ELEMENTDATA" "[Ljava/lang/Object;" (.ref w1) := Sta.start ev_w1 (Or.inl (hsets _ (List.mem_of_getElem? (i := 1) rfl)))
  obtain ⟨cl_w1, Ar_w1⟩ := Arr.start ev_w1 (Cond.before_iff.mp (hsets _ (List.mem_of_getElem? (i := 3) rfl)))
  have E_w1 : Exa s s.heap w1 "[Ljava/lang/Object;" := Exa.start ev_w1 (Cond.before_iff.mp (hsets _ (List.mem_of_getElem? (i := 4) rfl)))
  obtain ⟨w2, ev_w2⟩ := arr_v (Cond.before_iff.mp (hsets _ (List.mem_of_getElem? (i := 6) rfl)))
  have Sg2 : Sta s s.heap "java/util/ArrayList" "DEFAULTCAPACITY_EMPTY_ELEMENTDATA" "[Ljava/lang/Object;" (.ref w2) := Sta.start ev_w2 (Or.inr ⟨(tw hw 12 rfl), (hsets _ (List.mem_of_getElem? (i := 2) rfl))⟩)
  obtain ⟨cl_w2, Ar_w2⟩ := Arr.start ev_w2 (Cond.before_iff.mp (hsets _ (List.mem_of_getElem? (i := 6) rfl)))
  have E_w2 : Exa s s.heap w2 "[Ljava/lang/Object;" := Exa.start ev_w2 (Cond.before_iff.mp (hsets _ (List.mem_of_getElem? (i := 7) rfl)))
  have ev8 := own_eqv (Cond.before_iff.mp (hsets _ (List.mem_of_getElem? (i := 11) rfl))) (Term.int_eval (1))
  have Sg4 : Sta s s.heap "java/util/BitSet" "$assertionsDisabled" "Z" (.int 1) := Sta.start ev8 (Or.inl (hsets _ (List.mem_of_getElem? (i := 10) rfl)))
  obtain ⟨ql_w1, qe_w1⟩ := own_len ev_w1 Ar_w1 (own_eqv (Cond.before_iff.mp (hsets _ (List.mem_of_getElem? (i := 5) rfl))) (Term.int_eval (0)))
  obtain ⟨kw1, ek_w1⟩ : ∃ z, z = cl_w1.cls := ⟨_, rfl⟩
  have V_w1 : Arv s s.heap w1 kw1 (.object "java/lang/Object") (0 : Int32) [] .null := ek_w1 ▸ Arv.start hfit Ar_w1 ql_w1 qe_w1 (by decide) rfl trivial
  obtain ⟨ql_w2, qe_w2⟩ := own_len ev_w2 Ar_w2 (own_eqv (Cond.before_iff.mp (hsets _ (List.mem_of_getElem? (i := 8) rfl))) (Term.int_eval (0)))
  obtain ⟨kw2, ek_w2⟩ : ∃ z, z = cl_w2.cls := ⟨_, rfl⟩
  have V_w2 : Arv s s.heap w2 kw2 (.object "java/lang/Object") (0 : Int32) [] .null := ek_w2 ▸ Arv.start hfit Ar_w2 ql_w2 qe_w2 (by decide) rfl trivial
  have O0 := Old.start s
  obtain ⟨n, o, h1, h2, h3, _, L, rfl, ⟨rfl, N⟩, hq⟩ := rm0 l s _ hw tables_1 p0s w1 w2 kw1 kw2 s.heap s.heap.size (Nat.le_refl _) O0 Sg0 E_w1 Sg2 E_w2 Sg4 V_w1 V_w2 p e ha hc hk s m _ below hf ((Spec.applies_iff_loose hf).mp happ).1 ⟨rfl, State.Warmed39.refl s, rfl⟩ trivial
  refine ⟨n, _, h1, h2, h3, hpost _ _ _ _ _ _ ⟨Cond.after_iff.mpr rfl, Cond.after_iff.mpr (eq_i res_at (Term.int_eval (1)) rfl), trivial⟩ ⟨hq.1, hq.2.1, (hq.2.2.sift fun y hy => Or.inr (N y hy)).mono (by decide) (by decide)⟩⟩
theorem main_1_1 : Claimed_1_1 := comes_1 fun _ _ _ _ _ _ h hF => ⟨h.1, hF⟩
theorem main_1_2 : Claimed_1_2 := comes_1 fun _ _ _ _ _ _ h hF => ⟨h.2.1, hF⟩
end Jvm.Pilot.@@N@@
namespace Jvm.Pilot.@@N@@
open Jvm Jvm.ClassFile Sem Op Lib Jvm.Free Jvm.Stand Jvm.Pilot.@@N@@.Jvm.D
/-! MADE BY PROGRAM (witnessworld.py) out of the Statement's table words and the real class files: 24 classes; the members and pool entries that the words name. The judged class is class 1, her method 1. -/
namespace start1
open Jvm.ClassFile
def u (s : String) : CpInfo := .utf8 (stringToUtf16 s)
/-- a pool by its gaps: so many unusable entries, then the entry; so many at the end -/
def gap : Nat → List CpInfo → List CpInfo
  | 0, r => r
  | n + 1, r => .unusable :: gap n r
def poolList (es : List (Nat × CpInfo)) (last : Nat) : List CpInfo := es.foldr (fun e r => gap e.1 (e.2 :: r)) (gap last [])
def pool (es : List (Nat × CpInfo)) (last : Nat) : Array CpInfo := ⟨poolList es last⟩
def fileOf (pool : Array CpInfo) (this : Nat) (attrs : Array Attribute := #[]) (ms : Array MethodInfo := #[]) (fl : Nat := 33) (sup : Nat := 0) (ifs : Array Nat := #[]) (fds : Array FieldInfo := #[]) : ClassFile where
  minorVersion := 0
  majorVersion := 65
  constantPool := pool
  accessFlags := fl
  thisClass := this
  superClass := sup
  interfaces := ifs
  fields := fds
  methods := ms
  attributes := attrs
def plain (name : String) (sup : Option ClassId) : Class where
  name := name
  kind := .ordinary
  loader := none
  accessFlags := 33
  super := sup
  interfaces := #[]
  cf := none
  fields := #[]
  methods := #[]
  instanceTypes := #[]
  staticTypes := #[]
  resolved := #[]
  callSites := []
  init := .initialized
  statics := none
  mirror := none

def pool0 : Array CpInfo := pool [(5, u "<init>"), (0, u "()V"), (1, .class_ 10), (1, u "java/lang/Object")] 113

def k0c0 : Code := { maxStack := 0, maxLocals := 1, code := object_method_1_code, exceptionTable := #[], attributes := #[] }
def k0m0 : Method := { name := "<init>", desc := "()V", sig := { parameters := [], returnType := none }, accessFlags := 1, code := some k0c0 }
/-- java/lang/Object -/
def k0 : Class := { plain "java/lang/Object" none with
  accessFlags := 33
  interfaces := #[]
  cf := some (fileOf pool0 8 #[] #[{ accessFlags := 1, nameIndex := 5, descriptorIndex := 6, attributes := #[] }] 33 0 #[] #[])
  fields := #[]
  methods := #[k0m0]
  instanceTypes := #[]
  staticTypes := #[]
  resolved := Array.replicate 124 none
  statics := none }

def pool1 : Array CpInfo := pool [(2, .class_ 4), (0, .nameAndType 5 6), (0, u "java/lang/Object"), (0, u "<init>"), (0, u "()V"), (0, .integer 2147483647), (0, .class_ 9), (0, u "com/example/qedbox/qedbox/Known$Learnt"), (0, .methodref 8 3), (0, .methodref 8 12), (0, .nameAndType 13 14), (0, u "known"), (0, u "(I)Z"), (0, .class_ 16), (0, u "com/example/qedbox/qedbox/LearntKnownPinLaw"), (2, u "law")] 6

def k1m0 : Method := { name := "<init>", desc := "()V", sig := { parameters := [], returnType := none }, accessFlags := 2, code := none }
def k1c1 : Code := { maxStack := 2, maxLocals := 3, code := code, exceptionTable := #[], attributes := #[] }
def k1m1 : Method := { name := "law", desc := "(I)Z", sig := { parameters := [.int], returnType := some .boolean }, accessFlags := 9, code := some k1c1 }
/-- com/example/qedbox/qedbox/LearntKnownPinLaw -/
def k1 : Class := { plain "com/example/qedbox/qedbox/LearntKnownPinLaw" (some 0) with
  accessFlags := 49
  interfaces := #[]
  cf := some (fileOf pool1 15 #[] #[{ accessFlags := 2, nameIndex := 5, descriptorIndex := 6, attributes := #[] }, { accessFlags := 9, nameIndex := 19, descriptorIndex := 14, attributes := #[] }] 49 2 #[] #[])
  fields := #[]
  methods := #[k1m0, k1m1]
  instanceTypes := #[]
  staticTypes := #[]
  resolved := Array.replicate 26 none
  statics := none }

def pool2 : Array CpInfo := pool [(1, .methodref 2 3), (0, .class_ 4), (0, .nameAndType 5 6), (0, u "java/lang/Object"), (0, u "<init>"), (0, u "()V"), (0, .class_ 8), (0, u "java/util/ArrayList"), (0, .methodref 7 3), (0, .fieldref 11 12), (0, .class_ 13), (0, .nameAndType 14 15), (0, u "com/example/qedbox/qedbox/Known$Learnt"), (0, u "values"), (0, u "Ljava/util/List;"), (0, .class_ 17), (0, u "java/util/HashMap"), (0, .methodref 16 3), (0, .fieldref 11 20), (0, .nameAndType 21 22), (0, u "places"), (0, u "Ljava/util/Map;"), (0, .class_ 24), (0, u "java/util/BitSet"), (0, .methodref 23 3), (0, .fieldref 11 27), (0, .nameAndType 28 29), (0, u "guessed"), (0, u "Ljava/util/BitSet;"), (0, .fieldref 11 31), (0, .nameAndType 32 29), (0, u "dropped"), (0, .fieldref 11 34), (0, .nameAndType 35 29), (0, u "anew"), (4, u "get"), (3, .methodref 23 45), (0, .nameAndType 40 46), (0, u "(I)Z"), (40, u "known"), (9, .class_ 98), (0, u "com/example/qedbox/qedbox/Known")] 2

def k2c0 : Code := { maxStack := 3, maxLocals := 1, code := prog_10_method_1_code, exceptionTable := #[], attributes := #[] }
def k2m0 : Method := { name := "<init>", desc := "()V", sig := { parameters := [], returnType := none }, accessFlags := 0, code := some k2c0 }
def k2c1 : Code := { maxStack := 2, maxLocals := 2, code := prog_10_method_3_code, exceptionTable := #[], attributes := #[] }
def k2m1 : Method := { name := "known", desc := "(I)Z", sig := { parameters := [.int], returnType := some .boolean }, accessFlags := 0, code := some k2c1 }
/-- com/example/qedbox/qedbox/Known$Learnt -/
def k2 : Class := { plain "com/example/qedbox/qedbox/Known$Learnt" (some 0) with
  accessFlags := 48
  interfaces := #[]
  cf := some (fileOf pool2 11 #[.nestHost 97] #[{ accessFlags := 0, nameIndex := 5, descriptorIndex := 6, attributes := #[] }, { accessFlags := 0, nameIndex := 87, descriptorIndex := 46, attributes := #[] }] 48 2 #[] #[{ accessFlags := 18, nameIndex := 14, descriptorIndex := 15, attributes := #[] }, { accessFlags := 18, nameIndex := 21, descriptorIndex := 22, attributes := #[] }, { accessFlags := 18, nameIndex := 28, descriptorIndex := 29, attributes := #[] }, { accessFlags := 18, nameIndex := 32, descriptorIndex := 29, attributes := #[] }, { accessFlags := 18, nameIndex := 35, descriptorIndex := 29, attributes := #[] }])
  fields := #[{ name := "values", type := (.object "java/util/List"), accessFlags := 18, slot := 0, constantValue := 0 }, { name := "places", type := (.object "java/util/Map"), accessFlags := 18, slot := 1, constantValue := 0 }, { name := "guessed", type := (.object "java/util/BitSet"), accessFlags := 18, slot := 2, constantValue := 0 }, { name := "dropped", type := (.object "java/util/BitSet"), accessFlags := 18, slot := 3, constantValue := 0 }, { name := "anew", type := (.object "java/util/BitSet"), accessFlags := 18, slot := 4, constantValue := 0 }]
  methods := #[k2m0, k2m1]
  instanceTypes := #[(.object "java/util/List"), (.object "java/util/Map"), (.object "java/util/BitSet"), (.object "java/util/BitSet"), (.object "java/util/BitSet")]
  staticTypes := #[]
  resolved := Array.replicate 101 none
  statics := none }

def pool3 : Array CpInfo := pool [(8, .class_ 10), (1, u "java/lang/Iterable"), (24, .class_ 36), (0, u "java/lang/Object")] 25

/-- java/lang/Iterable -/
def k3 : Class := { plain "java/lang/Iterable" (some 0) with
  accessFlags := 1537
  interfaces := #[]
  cf := some (fileOf pool3 8 #[] #[] 1537 35 #[] #[])
  fields := #[]
  methods := #[]
  instanceTypes := #[]
  staticTypes := #[]
  resolved := Array.replicate 62 none
  statics := none }

def pool4 : Array CpInfo := pool [(10, .class_ 12), (1, u "java/util/Collection"), (47, .class_ 61), (0, u "java/lang/Object"), (0, .class_ 63), (0, u "java/lang/Iterable")] 51

/-- java/util/Collection -/
def k4 : Class := { plain "java/util/Collection" (some 0) with
  accessFlags := 1537
  interfaces := #[3]
  cf := some (fileOf pool4 10 #[] #[] 1537 60 #[62] #[])
  fields := #[]
  methods := #[]
  instanceTypes := #[]
  staticTypes := #[]
  resolved := Array.replicate 115 none
  statics := none }

def pool5 : Array CpInfo := pool [(1, .methodref 2 3), (0, .class_ 4), (0, .nameAndType 5 6), (0, u "java/lang/Object"), (0, u "<init>"), (0, u "()V"), (1, .class_ 10), (1, u "java/util/AbstractCollection"), (66, .class_ 78), (0, u "java/util/Collection")] 81

def k5c0 : Code := { maxStack := 1, maxLocals := 1, code := jdk_22_method_1_code, exceptionTable := #[], attributes := #[] }
def k5m0 : Method := { name := "<init>", desc := "()V", sig := { parameters := [], returnType := none }, accessFlags := 4, code := some k5c0 }
/-- java/util/AbstractCollection -/
def k5 : Class := { plain "java/util/AbstractCollection" (some 0) with
  accessFlags := 1057
  interfaces := #[4]
  cf := some (fileOf pool5 8 #[] #[{ accessFlags := 4, nameIndex := 5, descriptorIndex := 6, attributes := #[] }] 1057 2 #[77] #[])
  fields := #[]
  methods := #[k5m0]
  instanceTypes := #[]
  staticTypes := #[]
  resolved := Array.replicate 160 none
  statics := none }

def pool6 : Array CpInfo := pool [(8, .class_ 10), (1, u "java/util/SequencedCollection"), (15, .class_ 27), (0, u "java/lang/Object"), (0, .class_ 29), (0, u "java/util/Collection")] 27

/-- java/util/SequencedCollection -/
def k6 : Class := { plain "java/util/SequencedCollection" (some 0) with
  accessFlags := 1537
  interfaces := #[4]
  cf := some (fileOf pool6 8 #[] #[] 1537 26 #[28] #[])
  fields := #[]
  methods := #[]
  instanceTypes := #[]
  staticTypes := #[]
  resolved := Array.replicate 57 none
  statics := none }

def pool7 : Array CpInfo := pool [(8, .class_ 10), (1, u "java/util/List"), (92, .class_ 104), (0, u "java/lang/Object"), (15, .class_ 121), (0, u "java/util/SequencedCollection")] 129

/-- java/util/List -/
def k7 : Class := { plain "java/util/List" (some 0) with
  accessFlags := 1537
  interfaces := #[6]
  cf := some (fileOf pool7 8 #[] #[] 1537 103 #[120] #[])
  fields := #[]
  methods := #[]
  instanceTypes := #[]
  staticTypes := #[]
  resolved := Array.replicate 251 none
  statics := none }

def pool8 : Array CpInfo := pool [(1, .methodref 2 3), (0, .class_ 4), (0, .nameAndType 5 6), (0, u "java/util/AbstractCollection"), (0, u "<init>"), (0, u "()V"), (0, .fieldref 8 9), (0, .class_ 10), (0, .nameAndType 11 12), (0, u "java/util/AbstractList"), (0, u "modCount"), (0, u "I"), (64, .class_ 78), (0, u "java/util/AbstractList$Itr"), (3, .class_ 83), (0, u "java/util/AbstractList$ListItr"), (9, .class_ 94), (0, u "java/util/AbstractList$RandomAccessSubList"), (3, .class_ 99), (0, u "java/util/AbstractList$SubList"), (33, .class_ 134), (0, u "java/util/List"), (73, .class_ 209), (0, u "java/util/AbstractList$SubList$1"), (0, .class_ 211), (0, u "java/util/AbstractList$RandomAccessSpliterator")] 6

def k8c0 : Code := { maxStack := 2, maxLocals := 1, code := jdk_39_method_1_code, exceptionTable := #[], attributes := #[] }
def k8m0 : Method := { name := "<init>", desc := "()V", sig := { parameters := [], returnType := none }, accessFlags := 4, code := some k8c0 }
/-- java/util/AbstractList -/
def k8 : Class := { plain "java/util/AbstractList" (some 5) with
  accessFlags := 1057
  interfaces := #[7]
  cf := some (fileOf pool8 8 #[.nestMembers #[93, 98, 208, 210, 82, 77]] #[{ accessFlags := 4, nameIndex := 5, descriptorIndex := 6, attributes := #[] }] 1057 2 #[133] #[{ accessFlags := 132, nameIndex := 11, descriptorIndex := 12, attributes := #[] }])
  fields := #[{ name := "modCount", type := .int, accessFlags := 132, slot := 0, constantValue := 0 }]
  methods := #[k8m0]
  instanceTypes := #[.int]
  staticTypes := #[]
  resolved := Array.replicate 218 none
  statics := none }

def pool9 : Array CpInfo := pool [(1, .class_ 2), (0, u "java/util/RandomAccess"), (0, .class_ 4), (0, u "java/lang/Object")] 2

/-- java/util/RandomAccess -/
def k9 : Class := { plain "java/util/RandomAccess" (some 0) with
  accessFlags := 1537
  interfaces := #[]
  cf := some (fileOf pool9 1 #[] #[] 1537 3 #[] #[])
  fields := #[]
  methods := #[]
  instanceTypes := #[]
  staticTypes := #[]
  resolved := Array.replicate 7 none
  statics := none }

def pool10 : Array CpInfo := pool [(1, .class_ 2), (0, u "java/lang/Cloneable"), (0, .class_ 4), (0, u "java/lang/Object")] 2

/-- java/lang/Cloneable -/
def k10 : Class := { plain "java/lang/Cloneable" (some 0) with
  accessFlags := 1537
  interfaces := #[]
  cf := some (fileOf pool10 1 #[] #[] 1537 3 #[] #[])
  fields := #[]
  methods := #[]
  instanceTypes := #[]
  staticTypes := #[]
  resolved := Array.replicate 7 none
  statics := none }

def pool11 : Array CpInfo := pool [(1, .class_ 2), (0, u "java/io/Serializable"), (0, .class_ 4), (0, u "java/lang/Object")] 2

/-- java/io/Serializable -/
def k11 : Class := { plain "java/io/Serializable" (some 0) with
  accessFlags := 1537
  interfaces := #[]
  cf := some (fileOf pool11 1 #[] #[] 1537 3 #[] #[])
  fields := #[]
  methods := #[]
  instanceTypes := #[]
  staticTypes := #[]
  resolved := Array.replicate 7 none
  statics := none }

def pool12 : Array CpInfo := pool [(1, .methodref 2 3), (0, .class_ 4), (0, .nameAndType 5 6), (0, u "java/util/AbstractList"), (0, u "<init>"), (0, u "()V"), (2, .fieldref 10 11), (0, .class_ 12), (0, .nameAndType 13 14), (0, u "java/util/ArrayList"), (0, u "elementData"), (0, u "[Ljava/lang/Object;"), (2, u "EMPTY_ELEMENTDATA"), (21, .fieldref 10 40), (0, .nameAndType 41 14), (0, u "DEFAULTCAPACITY_EMPTY_ELEMENTDATA"), (8, u "size"), (0, u "I"), (96, .class_ 149), (0, u "java/util/List"), (112, .class_ 263), (0, u "java/util/ArrayList$ListItr"), (3, .class_ 268), (0, u "java/util/ArrayList$Itr"), (7, .class_ 277), (0, u "java/util/ArrayList$SubList"), (12, .class_ 291), (0, u "java/util/ArrayList$ArrayListSpliterator"), (37, .class_ 330), (0, u "java/util/RandomAccess"), (0, .class_ 332), (0, u "java/lang/Cloneable"), (0, .class_ 334), (0, u "java/io/Serializable"), (0, u "serialVersionUID"), (0, u "J"), (3, u "DEFAULT_CAPACITY"), (159, .class_ 501), (0, u "java/util/ArrayList$SubList$2"), (0, .class_ 503), (0, u "java/util/ArrayList$SubList$1")] 5

def k12c0 : Code := { maxStack := 2, maxLocals := 1, code := jdk_38_method_2_code, exceptionTable := #[], attributes := #[] }
def k12m0 : Method := { name := "<init>", desc := "()V", sig := { parameters := [], returnType := none }, accessFlags := 1, code := some k12c0 }
/-- java/util/ArrayList -/
def k12 : Class := { plain "java/util/ArrayList" (some 8) with
  accessFlags := 33
  interfaces := #[7, 9, 10, 11]
  cf := some (fileOf pool12 10 #[.nestMembers #[290, 276, 500, 502, 262, 267]] #[{ accessFlags := 1, nameIndex := 5, descriptorIndex := 6, attributes := #[] }] 33 2 #[148, 329, 331, 333] #[{ accessFlags := 26, nameIndex := 335, descriptorIndex := 336, attributes := #[] }, { accessFlags := 26, nameIndex := 340, descriptorIndex := 51, attributes := #[] }, { accessFlags := 26, nameIndex := 17, descriptorIndex := 14, attributes := #[] }, { accessFlags := 26, nameIndex := 41, descriptorIndex := 14, attributes := #[] }, { accessFlags := 128, nameIndex := 13, descriptorIndex := 14, attributes := #[] }, { accessFlags := 2, nameIndex := 50, descriptorIndex := 51, attributes := #[] }])
  fields := #[{ name := "serialVersionUID", type := .long, accessFlags := 26, slot := 0, constantValue := 0 }, { name := "DEFAULT_CAPACITY", type := .int, accessFlags := 26, slot := 1, constantValue := 0 }, { name := "EMPTY_ELEMENTDATA", type := (.array (.object "java/lang/Object")), accessFlags := 26, slot := 2, constantValue := 0 }, { name := "DEFAULTCAPACITY_EMPTY_ELEMENTDATA", type := (.array (.object "java/lang/Object")), accessFlags := 26, slot := 3, constantValue := 0 }, { name := "elementData", type := (.array (.object "java/lang/Object")), accessFlags := 128, slot := 1, constantValue := 0 }, { name := "size", type := .int, accessFlags := 2, slot := 2, constantValue := 0 }]
  methods := #[k12m0]
  instanceTypes := #[.int, (.array (.object "java/lang/Object")), .int]
  staticTypes := #[.long, .int, (.array (.object "java/lang/Object")), (.array (.object "java/lang/Object"))]
  resolved := Array.replicate 509 none
  statics := some 0 }

def pool13 : Array CpInfo := pool [(2, .class_ 4), (1, u "java/util/Map"), (31, .class_ 37), (0, u "java/util/Map$Entry"), (55, .class_ 94), (0, u "java/lang/Object")] 168

/-- java/util/Map -/
def k13 : Class := { plain "java/util/Map" (some 0) with
  accessFlags := 1537
  interfaces := #[]
  cf := some (fileOf pool13 2 #[.nestMembers #[36]] #[] 1537 93 #[] #[])
  fields := #[]
  methods := #[]
  instanceTypes := #[]
  staticTypes := #[]
  resolved := Array.replicate 263 none
  statics := none }

def pool14 : Array CpInfo := pool [(1, .methodref 2 3), (0, .class_ 4), (0, .nameAndType 5 6), (0, u "java/lang/Object"), (0, u "<init>"), (0, u "()V"), (1, .class_ 10), (1, u "java/util/AbstractMap"), (42, .class_ 54), (0, u "java/util/Map"), (9, u "keySet"), (0, u "Ljava/util/Set;"), (0, .class_ 67), (0, u "java/util/AbstractMap$1"), (5, u "values"), (0, u "Ljava/util/Collection;"), (0, .class_ 76), (0, u "java/util/AbstractMap$2"), (104, .class_ 182), (0, u "java/util/AbstractMap$ViewCollection"), (0, .class_ 184), (0, u "java/util/AbstractMap$SimpleImmutableEntry"), (0, .class_ 186), (0, u "java/util/AbstractMap$SimpleEntry"), (0, .class_ 188), (0, u "java/util/AbstractMap$2$1"), (0, .class_ 190), (0, u "java/util/AbstractMap$1$1")] 5

def k14c0 : Code := { maxStack := 1, maxLocals := 1, code := jdk_71_method_1_code, exceptionTable := #[], attributes := #[] }
def k14m0 : Method := { name := "<init>", desc := "()V", sig := { parameters := [], returnType := none }, accessFlags := 4, code := some k14c0 }
/-- java/util/AbstractMap -/
def k14 : Class := { plain "java/util/AbstractMap" (some 0) with
  accessFlags := 1057
  interfaces := #[13]
  cf := some (fileOf pool14 8 #[.nestMembers #[181, 183, 185, 75, 187, 66, 189]] #[{ accessFlags := 4, nameIndex := 5, descriptorIndex := 6, attributes := #[] }] 1057 2 #[53] #[{ accessFlags := 128, nameIndex := 64, descriptorIndex := 65, attributes := #[] }, { accessFlags := 128, nameIndex := 73, descriptorIndex := 74, attributes := #[] }])
  fields := #[{ name := "keySet", type := (.object "java/util/Set"), accessFlags := 128, slot := 0, constantValue := 0 }, { name := "values", type := (.object "java/util/Collection"), accessFlags := 128, slot := 1, constantValue := 0 }]
  methods := #[k14m0]
  instanceTypes := #[(.object "java/util/Set"), (.object "java/util/Collection")]
  staticTypes := #[]
  resolved := Array.replicate 196 none
  statics := none }

def pool15 : Array CpInfo := pool [(40, .class_ 41), (0, u "java/util/HashMap"), (1, .methodref 44 45), (0, .class_ 46), (0, .nameAndType 47 48), (0, u "java/util/AbstractMap"), (0, u "<init>"), (0, u "()V"), (32, .fieldref 40 82), (0, .nameAndType 83 84), (0, u "loadFactor"), (0, u "F"), (5, u "threshold"), (0, u "I"), (0, .float 1061158912), (8, .class_ 103), (1, u "java/util/Map"), (0, u "size"), (2, u "table"), (0, u "[Ljava/util/HashMap$Node;"), (14, u "entrySet"), (39, .class_ 165), (1, u "java/util/HashMap$Node"), (14, .class_ 181), (0, u "java/util/HashMap$TreeNode"), (22, u "modCount"), (37, u "Ljava/util/Set;"), (0, .class_ 244), (0, u "java/util/HashMap$KeySet"), (18, .class_ 264), (0, u "java/util/HashMap$Values"), (3, .class_ 269), (0, u "java/util/HashMap$EntrySet"), (76, .class_ 348), (1, u "java/util/HashMap$UnsafeHolder"), (43, .class_ 393), (0, u "java/lang/Cloneable"), (0, .class_ 395), (0, u "java/io/Serializable"), (0, u "serialVersionUID"), (0, u "J"), (3, u "DEFAULT_INITIAL_CAPACITY"), (1, u "MAXIMUM_CAPACITY"), (0, u "DEFAULT_LOAD_FACTOR"), (0, u "TREEIFY_THRESHOLD"), (1, u "UNTREEIFY_THRESHOLD"), (1, u "MIN_TREEIFY_CAPACITY"), (186, .class_ 597), (0, u "java/util/HashMap$EntrySpliterator"), (0, .class_ 599), (0, u "java/util/HashMap$ValueSpliterator"), (0, .class_ 601), (0, u "java/util/HashMap$KeySpliterator"), (0, .class_ 603), (0, u "java/util/HashMap$HashMapSpliterator"), (0, .class_ 605), (0, u "java/util/HashMap$EntryIterator"), (0, .class_ 607), (0, u "java/util/HashMap$ValueIterator"), (0, .class_ 609), (0, u "java/util/HashMap$KeyIterator"), (0, .class_ 611), (0, u "java/util/HashMap$HashIterator")] 17

def k15c0 : Code := { maxStack := 2, maxLocals := 1, code := jdk_69_method_7_code, exceptionTable := #[], attributes := #[] }
def k15m0 : Method := { name := "<init>", desc := "()V", sig := { parameters := [], returnType := none }, accessFlags := 1, code := some k15c0 }
/-- java/util/HashMap -/
def k15 : Class := { plain "java/util/HashMap" (some 14) with
  accessFlags := 33
  interfaces := #[13, 10, 11]
  cf := some (fileOf pool15 40 #[.nestMembers #[180, 596, 598, 600, 602, 604, 606, 608, 610, 346, 268, 263, 243, 163]] #[{ accessFlags := 1, nameIndex := 47, descriptorIndex := 48, attributes := #[] }] 33 44 #[101, 392, 394] #[{ accessFlags := 26, nameIndex := 396, descriptorIndex := 397, attributes := #[] }, { accessFlags := 24, nameIndex := 401, descriptorIndex := 91, attributes := #[] }, { accessFlags := 24, nameIndex := 403, descriptorIndex := 91, attributes := #[] }, { accessFlags := 24, nameIndex := 404, descriptorIndex := 84, attributes := #[] }, { accessFlags := 24, nameIndex := 405, descriptorIndex := 91, attributes := #[] }, { accessFlags := 24, nameIndex := 407, descriptorIndex := 91, attributes := #[] }, { accessFlags := 24, nameIndex := 409, descriptorIndex := 91, attributes := #[] }, { accessFlags := 128, nameIndex := 107, descriptorIndex := 108, attributes := #[] }, { accessFlags := 128, nameIndex := 123, descriptorIndex := 242, attributes := #[] }, { accessFlags := 128, nameIndex := 104, descriptorIndex := 91, attributes := #[] }, { accessFlags := 128, nameIndex := 204, descriptorIndex := 91, attributes := #[] }, { accessFlags := 0, nameIndex := 90, descriptorIndex := 91, attributes := #[] }, { accessFlags := 16, nameIndex := 83, descriptorIndex := 84, attributes := #[] }])
  fields := #[{ name := "serialVersionUID", type := .long, accessFlags := 26, slot := 0, constantValue := 0 }, { name := "DEFAULT_INITIAL_CAPACITY", type := .int, accessFlags := 24, slot := 1, constantValue := 0 }, { name := "MAXIMUM_CAPACITY", type := .int, accessFlags := 24, slot := 2, constantValue := 0 }, { name := "DEFAULT_LOAD_FACTOR", type := .float, accessFlags := 24, slot := 3, constantValue := 0 }, { name := "TREEIFY_THRESHOLD", type := .int, accessFlags := 24, slot := 4, constantValue := 0 }, { name := "UNTREEIFY_THRESHOLD", type := .int, accessFlags := 24, slot := 5, constantValue := 0 }, { name := "MIN_TREEIFY_CAPACITY", type := .int, accessFlags := 24, slot := 6, constantValue := 0 }, { name := "table", type := (.array (.object "java/util/HashMap$Node")), accessFlags := 128, slot := 2, constantValue := 0 }, { name := "entrySet", type := (.object "java/util/Set"), accessFlags := 128, slot := 3, constantValue := 0 }, { name := "size", type := .int, accessFlags := 128, slot := 4, constantValue := 0 }, { name := "modCount", type := .int, accessFlags := 128, slot := 5, constantValue := 0 }, { name := "threshold", type := .int, accessFlags := 0, slot := 6, constantValue := 0 }, { name := "loadFactor", type := .float, accessFlags := 16, slot := 7, constantValue := 0 }]
  methods := #[k15m0]
  instanceTypes := #[(.object "java/util/Set"), (.object "java/util/Collection"), (.array (.object "java/util/HashMap$Node")), (.object "java/util/Set"), .int, .int, .int, .float]
  staticTypes := #[.long, .int, .int, .float, .int, .int, .int]
  resolved := Array.replicate 629 none
  statics := none }

def pool16 : Array CpInfo := pool [(1, .class_ 2), (0, u "java/util/BitSet"), (0, .fieldref 1 4), (0, .nameAndType 5 6), (0, u "$assertionsDisabled"), (0, u "Z"), (0, .fieldref 1 8), (0, .nameAndType 9 10), (0, u "wordsInUse"), (0, u "I"), (0, .fieldref 1 12), (0, .nameAndType 13 14), (0, u "words"), (0, u "[J"), (3, .nameAndType 19 20), (0, u "<init>"), (0, u "()V"), (0, .methodref 22 18), (0, .class_ 23), (0, u "java/lang/Object"), (0, .fieldref 1 25), (0, .nameAndType 26 6), (0, u "sizeIsSticky"), (0, .methodref 1 28), (0, .nameAndType 29 30), (0, u "initWords"), (0, u "(I)V"), (21, .methodref 1 53), (0, .nameAndType 54 55), (0, u "wordIndex"), (0, u "(I)I"), (0, .methodref 1 57), (0, .nameAndType 58 20), (0, u "checkInvariants"), (21, u "get"), (188, .class_ 270), (0, u "java/util/BitSet$1BitSetSpliterator"), (22, u "serialPersistentFields"), (0, u "[Ljava/io/ObjectStreamField;"), (0, .class_ 296), (0, u "java/lang/Cloneable"), (0, .class_ 298), (0, u "java/io/Serializable"), (0, u "ADDRESS_BITS_PER_WORD"), (2, u "BITS_PER_WORD"), (1, u "BIT_INDEX_MASK"), (1, u "WORD_MASK"), (0, u "J"), (0, u "serialVersionUID"), (42, u "(I)Z")] 65

def k16c0 : Code := { maxStack := 2, maxLocals := 1, code := jdk_92_method_1_code, exceptionTable := #[], attributes := #[] }
def k16m0 : Method := { name := "wordIndex", desc := "(I)I", sig := { parameters := [.int], returnType := some .int }, accessFlags := 10, code := some k16c0 }
def k16c1 : Code := { maxStack := 4, maxLocals := 1, code := jdk_92_method_2_code, exceptionTable := #[], attributes := #[] }
def k16m1 : Method := { name := "checkInvariants", desc := "()V", sig := { parameters := [], returnType := none }, accessFlags := 2, code := some k16c1 }
def k16c2 : Code := { maxStack := 2, maxLocals := 1, code := jdk_92_method_4_code, exceptionTable := #[], attributes := #[] }
def k16m2 : Method := { name := "<init>", desc := "()V", sig := { parameters := [], returnType := none }, accessFlags := 1, code := some k16c2 }
def k16c3 : Code := { maxStack := 3, maxLocals := 2, code := jdk_92_method_6_code, exceptionTable := #[], attributes := #[] }
def k16m3 : Method := { name := "initWords", desc := "(I)V", sig := { parameters := [.int], returnType := none }, accessFlags := 2, code := some k16c3 }
def k16c4 : Code := { maxStack := 5, maxLocals := 3, code := jdk_92_method_26_code, exceptionTable := #[], attributes := #[] }
def k16m4 : Method := { name := "get", desc := "(I)Z", sig := { parameters := [.int], returnType := some .boolean }, accessFlags := 1, code := some k16c4 }
/-- java/util/BitSet -/
def k16 : Class := { plain "java/util/BitSet" (some 0) with
  accessFlags := 33
  interfaces := #[10, 11]
  cf := some (fileOf pool16 1 #[.nestMembers #[269]] #[{ accessFlags := 10, nameIndex := 54, descriptorIndex := 55, attributes := #[] }, { accessFlags := 2, nameIndex := 58, descriptorIndex := 20, attributes := #[] }, { accessFlags := 1, nameIndex := 19, descriptorIndex := 20, attributes := #[] }, { accessFlags := 2, nameIndex := 29, descriptorIndex := 30, attributes := #[] }, { accessFlags := 1, nameIndex := 80, descriptorIndex := 351, attributes := #[] }] 33 22 #[295, 297] #[{ accessFlags := 26, nameIndex := 299, descriptorIndex := 10, attributes := #[] }, { accessFlags := 26, nameIndex := 302, descriptorIndex := 10, attributes := #[] }, { accessFlags := 26, nameIndex := 304, descriptorIndex := 10, attributes := #[] }, { accessFlags := 26, nameIndex := 306, descriptorIndex := 307, attributes := #[] }, { accessFlags := 26, nameIndex := 293, descriptorIndex := 294, attributes := #[] }, { accessFlags := 2, nameIndex := 13, descriptorIndex := 14, attributes := #[] }, { accessFlags := 130, nameIndex := 9, descriptorIndex := 10, attributes := #[] }, { accessFlags := 130, nameIndex := 26, descriptorIndex := 6, attributes := #[] }, { accessFlags := 26, nameIndex := 308, descriptorIndex := 307, attributes := #[] }, { accessFlags := 4120, nameIndex := 5, descriptorIndex := 6, attributes := #[] }])
  fields := #[{ name := "ADDRESS_BITS_PER_WORD", type := .int, accessFlags := 26, slot := 0, constantValue := 0 }, { name := "BITS_PER_WORD", type := .int, accessFlags := 26, slot := 1, constantValue := 0 }, { name := "BIT_INDEX_MASK", type := .int, accessFlags := 26, slot := 2, constantValue := 0 }, { name := "WORD_MASK", type := .long, accessFlags := 26, slot := 3, constantValue := 0 }, { name := "serialPersistentFields", type := (.array (.object "java/io/ObjectStreamField")), accessFlags := 26, slot := 4, constantValue := 0 }, { name := "words", type := (.array .long), accessFlags := 2, slot := 0, constantValue := 0 }, { name := "wordsInUse", type := .int, accessFlags := 130, slot := 1, constantValue := 0 }, { name := "sizeIsSticky", type := .boolean, accessFlags := 130, slot := 2, constantValue := 0 }, { name := "serialVersionUID", type := .long, accessFlags := 26, slot := 5, constantValue := 0 }, { name := "$assertionsDisabled", type := .boolean, accessFlags := 4120, slot := 6, constantValue := 0 }]
  methods := #[k16m0, k16m1, k16m2, k16m3, k16m4]
  instanceTypes := #[(.array .long), .int, .boolean]
  staticTypes := #[.int, .int, .int, .long, (.array (.object "java/io/ObjectStreamField")), .long, .boolean]
  resolved := Array.replicate 417 none
  statics := some 1 }

/-- the primitive byte -/
def k17 : Class := { plain "byte" none with kind := .primitive 'B', accessFlags := 0x411 }
/-- [B -/
def k18 : Class := { plain "[B" (some 0) with kind := .array 17 .byte, interfaces := #[10, 11], accessFlags := 1041 }

/-- the primitive int -/
def k19 : Class := { plain "int" none with kind := .primitive 'I', accessFlags := 0x411 }
/-- [I -/
def k20 : Class := { plain "[I" (some 0) with kind := .array 19 .int, interfaces := #[10, 11], accessFlags := 1041 }

/-- the primitive long -/
def k21 : Class := { plain "long" none with kind := .primitive 'J', accessFlags := 0x411 }
/-- [J -/
def k22 : Class := { plain "[J" (some 0) with kind := .array 21 .long, interfaces := #[10, 11], accessFlags := 1041 }

/-- [Ljava/lang/Object; -/
def k23 : Class := { plain "[Ljava/lang/Object;" (some 0) with kind := .array 0 (.object "java/lang/Object"), interfaces := #[10, 11], accessFlags := 1041 }

def heap : Heap := #[{ cls := 12, slots := #[.long 0, .int 0, .ref 2, .ref 3], vm := .statics 12 },
  { cls := 16, slots := #[.int 0, .int 0, .int 0, .long 0, .null, .long 0, .int 1], vm := .statics 16 },
  { cls := 23, slots := #[], vm := .none },
  { cls := 23, slots := #[], vm := .none }]
def classes : Array Class := #[k0, k1, k2, k3, k4, k5, k6, k7, k8, k9, k10, k11, k12, k13, k14, k15, k16, k17, k18, k19, k20, k21, k22, k23]
def interned : List (Array UInt16 × Addr) := []
def slotsUsed : Nat := 11
def theMethod : MethodId := ⟨1, 1⟩
def args0 : Array Value := #[.int 5]
def aboutOver (below : List Frame) : State where
  vm := { classes := classes, interned := interned.toArray }
  heap := heap
  slotsUsed := slotsUsed
  threads := #[{ frames := .invoking theMethod args0 :: below }]
def below0 : List Frame := [.native { method := ⟨0, 0⟩, args := #[] }]
def about1 : State := aboutOver below0
def p0 : Program := .bare "" "" ""
def e0 : Env := launch0.env 0 0 0
theorem w_frames : about1.frames = Frame.invoking theMethod args0 :: below0 := rfl
set_option maxRecDepth 65536 in
theorem w_args : argsFit about1.vm theMethod args0 = true := by decide +kernel
set_option maxRecDepth 65536 in
theorem w_heap : heapFits about1 = true := by decide +kernel
set_option maxRecDepth 65536 in
theorem w_runnable : about1.curStatus? = some .runnable := by decide +kernel
set_option maxRecDepth 65536 in
theorem w_alone : about1.alone = true := by decide +kernel
set_option maxRecDepth 65536 in
theorem w_named : about1.methodNamed? x = some theMethod := by decide +kernel
set_option maxRecDepth 65536 in
theorem w_hears : about1.hears theMethod below0 = true := by decide +kernel
set_option maxRecDepth 65536 in
theorem w_ripe : about1.ripe theMethod args0 below0 = true := by decide +kernel
theorem w_running : about1.status = .running := rfl
set_option maxRecDepth 65536 in
theorem w_room : about1.hasRoom e0.platform room_1 = true :=
  launch0.hasRoom_least _ room_1 (by decide +kernel) (by decide +kernel) (by decide +kernel) (by decide +kernel) (by decide +kernel) (by decide +kernel)
theorem allAtoms_all (ts : List Jvm.Cond) (a : Array Jvm.Value) (st : Jvm.State) : (allAtoms ts).before a st = ts.all (fun c => c.before a st) := by
  induction ts with
  | nil => rfl
  | cons c t ih =>
    show (Jvm.Cond.and c (allAtoms t)).before a st = _
    rw [Jvm.Cond.before_and, ih, List.all_cons]
def words1 : List Jvm.Cond := Jvm.Cond.code x code maxLocals ret :: tables_1
/-- a 'code' word, met by the world's own term for the bytes: nothing is compared byte by byte -/
theorem code_word {y : MethodName} {bytes : ByteArray} {mx : Nat} {rt : Option FieldType} {a : Array Value} {s : State} {m : MethodId} {meth : Method} {c : Code} (h1 : s.methodNamed? y = some m) (h2 : s.vm.method? m = some meth) (h3 : meth.code = some c) (h4 : c.code = bytes)
    (h5 : (c.maxLocals == mx && c.exceptionTable.isEmpty && decide (c.maxStack ≤ mostOperands) && decide (meth.sig.returnType = rt) && !meth.locks && decide (parseMethodDescriptor y.desc = some meth.sig)) = true) : (Jvm.Cond.code y bytes mx rt).before a s = true := by
  simp only [Bool.and_eq_true, beq_iff_eq, Bool.not_eq_true', decide_eq_true_eq] at h5
  obtain ⟨⟨⟨⟨⟨g1, g2⟩, g3⟩, g4⟩, g5⟩, g6⟩ := h5
  simp [Cond.before, Cond.holds, Cond.value, h1, h2, h3, h4, g1, g2, g3, g4, g5, g6]
def isCode : Jvm.Cond → Bool
  | .code _ _ _ _ => true
  | _ => false
theorem all_split {L : List Jvm.Cond} {P : Jvm.Cond → Bool} (h1 : L.all (fun c => isCode c || P c) = true) (h2 : ∀ c ∈ L.filter isCode, P c = true) : L.all P = true := by
  refine List.all_eq_true.mpr fun c hc => ?_
  have h := List.all_eq_true.mp h1 c hc
  rcases Bool.eq_false_or_eq_true (isCode c) with hi | hi
  · exact h2 c (List.mem_filter.mpr ⟨hc, hi⟩)
  · simpa [hi] using h
set_option maxRecDepth 65536 in
theorem w_c0 : (Jvm.Cond.code x code maxLocals ret).before args0 about1 = true := code_word (m := ⟨1, 1⟩) (meth := k1m1) (c := k1c1) (by decide +kernel) rfl rfl rfl (by decide +kernel)
set_option maxRecDepth 65536 in
theorem w_c1 : (Jvm.Cond.code ({ cls := "com/example/qedbox/qedbox/Known$Learnt", name := "<init>", desc := "()V" } : Jvm.MethodName) prog_10_method_1_code (1 : Nat) (Option.none : Option Jvm.ClassFile.FieldType)).before args0 about1 = true := code_word (m := ⟨2, 0⟩) (meth := k2m0) (c := k2c0) (by decide +kernel) rfl rfl rfl (by decide +kernel)
set_option maxRecDepth 65536 in
theorem w_c2 : (Jvm.Cond.code ({ cls := "java/lang/Object", name := "<init>", desc := "()V" } : Jvm.MethodName) object_method_1_code (1 : Nat) (Option.none : Option Jvm.ClassFile.FieldType)).before args0 about1 = true := code_word (m := ⟨0, 0⟩) (meth := k0m0) (c := k0c0) (by decide +kernel) rfl rfl rfl (by decide +kernel)
set_option maxRecDepth 65536 in
theorem w_c3 : (Jvm.Cond.code ({ cls := "java/util/ArrayList", name := "<init>", desc := "()V" } : Jvm.MethodName) jdk_38_method_2_code (1 : Nat) (Option.none : Option Jvm.ClassFile.FieldType)).before args0 about1 = true := code_word (m := ⟨12, 0⟩) (meth := k12m0) (c := k12c0) (by decide +kernel) rfl rfl rfl (by decide +kernel)
set_option maxRecDepth 65536 in
theorem w_c4 : (Jvm.Cond.code ({ cls := "java/util/AbstractList", name := "<init>", desc := "()V" } : Jvm.MethodName) jdk_39_method_1_code (1 : Nat) (Option.none : Option Jvm.ClassFile.FieldType)).before args0 about1 = true := code_word (m := ⟨8, 0⟩) (meth := k8m0) (c := k8c0) (by decide +kernel) rfl rfl rfl (by decide +kernel)
set_option maxRecDepth 65536 in
theorem w_c5 : (Jvm.Cond.code ({ cls := "java/util/AbstractCollection", name := "<init>", desc := "()V" } : Jvm.MethodName) jdk_22_method_1_code (1 : Nat) (Option.none : Option Jvm.ClassFile.FieldType)).before args0 about1 = true := code_word (m := ⟨5, 0⟩) (meth := k5m0) (c := k5c0) (by decide +kernel) rfl rfl rfl (by decide +kernel)
set_option maxRecDepth 65536 in
theorem w_c6 : (Jvm.Cond.code ({ cls := "java/util/HashMap", name := "<init>", desc := "()V" } : Jvm.MethodName) jdk_69_method_7_code (1 : Nat) (Option.none : Option Jvm.ClassFile.FieldType)).before args0 about1 = true := code_word (m := ⟨15, 0⟩) (meth := k15m0) (c := k15c0) (by decide +kernel) rfl rfl rfl (by decide +kernel)
set_option maxRecDepth 65536 in
theorem w_c7 : (Jvm.Cond.code ({ cls := "java/util/AbstractMap", name := "<init>", desc := "()V" } : Jvm.MethodName) jdk_71_method_1_code (1 : Nat) (Option.none : Option Jvm.ClassFile.FieldType)).before args0 about1 = true := code_word (m := ⟨14, 0⟩) (meth := k14m0) (c := k14c0) (by decide +kernel) rfl rfl rfl (by decide +kernel)
set_option maxRecDepth 65536 in
theorem w_c8 : (Jvm.Cond.code ({ cls := "java/util/BitSet", name := "<init>", desc := "()V" } : Jvm.MethodName) jdk_92_method_4_code (1 : Nat) (Option.none : Option Jvm.ClassFile.FieldType)).before args0 about1 = true := code_word (m := ⟨16, 2⟩) (meth := k16m2) (c := k16c2) (by decide +kernel) rfl rfl rfl (by decide +kernel)
set_option maxRecDepth 65536 in
theorem w_c9 : (Jvm.Cond.code ({ cls := "java/util/BitSet", name := "initWords", desc := "(I)V" } : Jvm.MethodName) jdk_92_method_6_code (2 : Nat) (Option.none : Option Jvm.ClassFile.FieldType)).before args0 about1 = true := code_word (m := ⟨16, 3⟩) (meth := k16m3) (c := k16c3) (by decide +kernel) rfl rfl rfl (by decide +kernel)
set_option maxRecDepth 65536 in
theorem w_c10 : (Jvm.Cond.code ({ cls := "java/util/BitSet", name := "wordIndex", desc := "(I)I" } : Jvm.MethodName) jdk_92_method_1_code (1 : Nat) (Option.some Jvm.ClassFile.FieldType.int)).before args0 about1 = true := code_word (m := ⟨16, 0⟩) (meth := k16m0) (c := k16c0) (by decide +kernel) rfl rfl rfl (by decide +kernel)
set_option maxRecDepth 65536 in
theorem w_c11 : (Jvm.Cond.code ({ cls := "com/example/qedbox/qedbox/Known$Learnt", name := "known", desc := "(I)Z" } : Jvm.MethodName) prog_10_method_3_code (2 : Nat) (Option.some Jvm.ClassFile.FieldType.boolean)).before args0 about1 = true := code_word (m := ⟨2, 1⟩) (meth := k2m1) (c := k2c1) (by decide +kernel) rfl rfl rfl (by decide +kernel)
set_option maxRecDepth 65536 in
theorem w_c12 : (Jvm.Cond.code ({ cls := "java/util/BitSet", name := "get", desc := "(I)Z" } : Jvm.MethodName) jdk_92_method_26_code (3 : Nat) (Option.some Jvm.ClassFile.FieldType.boolean)).before args0 about1 = true := code_word (m := ⟨16, 4⟩) (meth := k16m4) (c := k16c4) (by decide +kernel) rfl rfl rfl (by decide +kernel)
set_option maxRecDepth 65536 in
theorem w_c13 : (Jvm.Cond.code ({ cls := "java/util/BitSet", name := "checkInvariants", desc := "()V" } : Jvm.MethodName) jdk_92_method_2_code (1 : Nat) (Option.none : Option Jvm.ClassFile.FieldType)).before args0 about1 = true := code_word (m := ⟨16, 1⟩) (meth := k16m1) (c := k16c1) (by decide +kernel) rfl rfl rfl (by decide +kernel)
def codes1 : List Jvm.Cond := [Jvm.Cond.code x code maxLocals ret, Jvm.Cond.code ({ cls := "com/example/qedbox/qedbox/Known$Learnt", name := "<init>", desc := "()V" } : Jvm.MethodName) prog_10_method_1_code (1 : Nat) (Option.none : Option Jvm.ClassFile.FieldType), Jvm.Cond.code ({ cls := "java/lang/Object", name := "<init>", desc := "()V" } : Jvm.MethodName) object_method_1_code (1 : Nat) (Option.none : Option Jvm.ClassFile.FieldType), Jvm.Cond.code ({ cls := "java/util/ArrayList", name := "<init>", desc := "()V" } : Jvm.MethodName) jdk_38_method_2_code (1 : Nat) (Option.none : Option Jvm.ClassFile.FieldType), Jvm.Cond.code ({ cls := "java/util/AbstractList", name := "<init>", desc := "()V" } : Jvm.MethodName) jdk_39_method_1_code (1 : Nat) (Option.none : Option Jvm.ClassFile.FieldType), Jvm.Cond.code ({ cls := "java/util/AbstractCollection", name := "<init>", desc := "()V" } : Jvm.MethodName) jdk_22_method_1_code (1 : Nat) (Option.none : Option Jvm.ClassFile.FieldType), Jvm.Cond.code ({ cls := "java/util/HashMap", name := "<init>", desc := "()V" } : Jvm.MethodName) jdk_69_method_7_code (1 : Nat) (Option.none : Option Jvm.ClassFile.FieldType), Jvm.Cond.code ({ cls := "java/util/AbstractMap", name := "<init>", desc := "()V" } : Jvm.MethodName) jdk_71_method_1_code (1 : Nat) (Option.none : Option Jvm.ClassFile.FieldType), Jvm.Cond.code ({ cls := "java/util/BitSet", name := "<init>", desc := "()V" } : Jvm.MethodName) jdk_92_method_4_code (1 : Nat) (Option.none : Option Jvm.ClassFile.FieldType), Jvm.Cond.code ({ cls := "java/util/BitSet", name := "initWords", desc := "(I)V" } : Jvm.MethodName) jdk_92_method_6_code (2 : Nat) (Option.none : Option Jvm.ClassFile.FieldType), Jvm.Cond.code ({ cls := "java/util/BitSet", name := "wordIndex", desc := "(I)I" } : Jvm.MethodName) jdk_92_method_1_code (1 : Nat) (Option.some Jvm.ClassFile.FieldType.int), Jvm.Cond.code ({ cls := "com/example/qedbox/qedbox/Known$Learnt", name := "known", desc := "(I)Z" } : Jvm.MethodName) prog_10_method_3_code (2 : Nat) (Option.some Jvm.ClassFile.FieldType.boolean), Jvm.Cond.code ({ cls := "java/util/BitSet", name := "get", desc := "(I)Z" } : Jvm.MethodName) jdk_92_method_26_code (3 : Nat) (Option.some Jvm.ClassFile.FieldType.boolean), Jvm.Cond.code ({ cls := "java/util/BitSet", name := "checkInvariants", desc := "()V" } : Jvm.MethodName) jdk_92_method_2_code (1 : Nat) (Option.none : Option Jvm.ClassFile.FieldType)]
set_option maxRecDepth 65536 in
theorem codes_eq : words1.filter isCode = codes1 := rfl
theorem w_codes : ∀ c ∈ words1.filter isCode, c.before args0 about1 = true := by
  rw [codes_eq]
  intro c hc
  simp only [codes1, List.mem_cons, List.not_mem_nil, or_false] at hc
  rcases hc with rfl | rfl | rfl | rfl | rfl | rfl | rfl | rfl | rfl | rfl | rfl | rfl | rfl | rfl
  · exact w_c0
  · exact w_c1
  · exact w_c2
  · exact w_c3
  · exact w_c4
  · exact w_c5
  · exact w_c6
  · exact w_c7
  · exact w_c8
  · exact w_c9
  · exact w_c10
  · exact w_c11
  · exact w_c12
  · exact w_c13
set_option maxRecDepth 65536 in
theorem w_t1 : (words1.take 24).all (fun c => isCode c || c.before args0 about1) = true := by decide +kernel
set_option maxRecDepth 65536 in
theorem w_t2 : ((words1.drop 24).take 24).all (fun c => isCode c || c.before args0 about1) = true := by decide +kernel
set_option maxRecDepth 65536 in
theorem w_t3 : (((words1.drop 24).drop 24).take 24).all (fun c => isCode c || c.before args0 about1) = true := by decide +kernel
set_option maxRecDepth 65536 in
theorem w_t4 : ((((words1.drop 24).drop 24).drop 24).take 24).all (fun c => isCode c || c.before args0 about1) = true := by decide +kernel
set_option maxRecDepth 65536 in
theorem w_t5 : ((((words1.drop 24).drop 24).drop 24).drop 24).all (fun c => isCode c || c.before args0 about1) = true := by decide +kernel
theorem w_tables : (allAtoms (Jvm.Cond.code x code maxLocals ret :: tables_1)).before args0 about1 = true := by
  rw [allAtoms_all]
  show words1.all (fun c => c.before args0 about1) = true
  refine all_split ?_ w_codes
  rw [← List.take_append_drop 24 words1, List.all_append, w_t1, ← List.take_append_drop 24 (words1.drop 24), List.all_append, w_t2, ← List.take_append_drop 24 ((words1.drop 24).drop 24), List.all_append, w_t3, ← List.take_append_drop 24 (((words1.drop 24).drop 24).drop 24), List.all_append, w_t4, w_t5]
  rfl
set_option maxRecDepth 65536 in
theorem w_rest : rest_1_c.before args0 about1 = true := by decide +kernel
set_option maxRecDepth 65536 in
theorem w_case : (Jvm.Cond.and given_1 narrow_1).before args0 about1 = true := by decide +kernel
theorem w_applies : (headSpec (Jvm.Cond.code x code maxLocals ret :: tables_1) room_1).applies x e0.platform about1 = true :=
  (Spec.applies_iff w_frames).mpr ⟨w_running, w_runnable, w_alone, w_named, w_hears, w_ripe, w_room, w_tables⟩
theorem atStart : AtStart classFile x code maxLocals ret World_1 tables_1 room_1 Calls_1 rest_1 Pre_1 launch0 p0 e0 about1 theMethod args0 below0 :=
  ⟨lists_1, trivial, launch0.admits_env _ _ _, launch0.least_env, fairChoices_fair.cas, fairChoices_fair.clock, w_frames, w_args, w_heap, w_applies, trivial, w_rest, w_case⟩
end start1
theorem witness_1 : WitnessClaimed_1 := ⟨start1.p0, start1.e0, start1.about1, start1.theMethod, start1.args0, start1.below0, start1.atStart⟩
end Jvm.Pilot.@@N@@
