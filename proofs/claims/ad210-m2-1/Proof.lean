import JvmDerived
import JvmDerived.Pilot.@@N@@Statement
import JvmDerived.Pilot.@@N@@Code
set_option linter.unusedVariables false
set_option linter.unusedSimpArgs false
namespace Jvm.RoadKit
open Sem ClassFile Op Lib Jvm.Stand Jvm.Free Jvm.LawKit
section New
variable {p : Program} {l : Launch} {e : Env} {R : Room} {s : State} {m : MethodId} {args : Array Value} {below : List Frame} {meth : Method} {c : Code} {T : State} {locs : List Loc} {cells slots : Nat}
theorem retI (X : Stand p l e R s m args below meth c T locs cells slots) (hx : p.tables.exec = Jvm.exec) {pc : Nat} {Ls : Array Slot} {z : Int32} {rest : List Value} (hret : meth.sig.returnType = some .int) (hd : decode c.code pc = .ok (.ireturn, 1)) {fs : List Frame}
    (hl : ∀ (f : JFrame) (acts : List Action), f.method = m → f.locked = none → f.entered = [] → (doReturn e (T.setTop f) acts (some (.int z))).1 = T.setFrames fs) : Steps p.tables e below (T.setTop (mkF m pc Ls (.int z :: rest))) (T.setFrames fs) := by
  have hm' : T.vm.method? m = some meth := X.method'
  have hn : narrow .int (.int z) = .int z := rfl
  show Steps p.tables e below (T.setTop { method := m, pc := pc, locals := Ls, stack := _ :: rest, locked := none }) _
  jvm_step X.here [X.here.top, hx, hd, hm', hret, hn]
  first | (intro acts; rw [hl _ acts rfl rfl rfl]) | rw [hl _ _ rfl rfl rfl]
  exact Steps.refl _
theorem own_retR (X : Stand p l e R s m args below meth c T locs cells slots) (hx : p.tables.exec = Jvm.exec) {pc : Nat} {Ls : Array Slot} {w : Value} {t : FieldType} {rest : List Value} (hret : meth.sig.returnType = some t) (ht : t.isReference = true) (hw : w.isRef = true) (hd : decode c.code pc = .ok (.areturn, 1)) {fs : List Frame}
    (hl : ∀ (f : JFrame) (acts : List Action), f.method = m → f.locked = none → f.entered = [] → (doReturn e (T.setTop f) acts (some w)).1 = T.setFrames fs) : Steps p.tables e below (T.setTop (mkF m pc Ls (w :: rest))) (T.setFrames fs) :=
  retOut X hx hret (by rcases ref_cases hw with rfl | ⟨z, rfl⟩ <;> cases t <;> first | rfl | (cases ht; done)) (Or.inr (Or.inr (Or.inr (Or.inr ⟨rfl, ht, hw⟩)))) hd hl
theorem own_retJ (X : Stand p l e R s m args below meth c T locs cells slots) (hx : p.tables.exec = Jvm.exec) {pc : Nat} {Ls : Array Slot} {z : Int64} {rest : List Value} (hret : meth.sig.returnType = some .long) (hd : decode c.code pc = .ok (.lreturn, 1)) {fs : List Frame}
    (hl : ∀ (f : JFrame) (acts : List Action), f.method = m → f.locked = none → f.entered = [] → (doReturn e (T.setTop f) acts (some (.long z))).1 = T.setFrames fs) : Steps p.tables e below (T.setTop (mkF m pc Ls (.long z :: rest))) (T.setFrames fs) :=
  retOut X hx hret rfl (Or.inr (Or.inl ⟨rfl, rfl, z, rfl⟩)) hd hl
end New
theorem own_eqv {args : Array Value} {first s : State} {o : Option Outcome} {idx : List Nat} {a b : Term} {v : Value} (h : (Jvm.Cond.eq a b).value args first o s idx = some true) (hb : b.eval args first o idx s = some v) (hk : (match v with | .int _ => true | .ref _ => true | .long _ => true | _ => false) = true := by rfl) : a.eval args first o idx s = some v := by
  simp only [Cond.value, hb] at h
  cases ha : a.eval args first o idx s with
  | none => simp [ha] at h
  | some x => cases x <;> cases v <;> simp_all
theorem own_selP {Z s : State} {a0 args : Array Value} {y : MethodName} {n : Nat} (hZ : Z.Warmed39 s.vm) (wi : (Cond.instantiable y.cls n).before a0 Z = true) (wp : (Cond.privateMethod y).before a0 Z = true) (wm : (Cond.instanceMethod y).before a0 Z = true) (hy : y.cls ≠ "java/lang/invoke/MethodHandle" ∧ y.cls ≠ "java/lang/invoke/VarHandle") : (Cond.selects y.cls y y).before args s = true := by
  have wi' : (Cond.instantiable y.cls n).before args s = true := mvT hZ wi
  have wm' : (Cond.instanceMethod y).before args s = true := mvT hZ wm
  obtain ⟨c, k, h1, h2, -, h4, -⟩ := Cond.instantiable_spec wi'
  simp only [Bool.or_eq_false_iff] at h4
  exact selects_self_of_private h1 h2 h4.1 (Cond.privateMethod_at (mvP hZ wp (args := #[]))) wm' hy
theorem own_selQ {Z s : State} {a0 args : Array Value} {y : MethodName} {y' : MethodName} {n' d' : String} (hZ : Z.Warmed39 s.vm) (wi : (Cond.selects y.cls y' ⟨y.cls, n', d'⟩).before a0 Z = true) (wp : (Cond.privateMethod y).before a0 Z = true) (wm : (Cond.instanceMethod y).before a0 Z = true) (hy : y.cls ≠ "java/lang/invoke/MethodHandle" ∧ y.cls ≠ "java/lang/invoke/VarHandle") : (Cond.selects y.cls y y).before args s = true := by
  have wi' : (Cond.selects y.cls y' ⟨y.cls, n', d'⟩).before args s = true := mvT hZ wi
  have wm' : (Cond.instanceMethod y).before args s = true := mvT hZ wm
  obtain ⟨c2, r2, m2, -, -, q3, -, kP, hkP, hkPi⟩ := Cond.selects_spec wi'
  have hc := findClass_of_methodNamed q3
  exact selects_self_of_private (c := m2.cls) hc hkP hkPi (Cond.privateMethod_at (mvP hZ wp (args := #[]))) wm' hy
theorem own_len {args : Array Value} {s : State} {t : Term} {a : Addr} {cl : Cell} {ty : FieldType} {z : Int32} (ht : t.eval args s none [] s = some (.ref a)) (A : Arr s s.heap a cl ty) (h : (Term.length t).eval args s none [] s = some (.int z)) : cl.slots.size < 2 ^ 31 ∧ cl.slots.size.toInt32 = z := by
  have e := A.fin (Vm.Alike.refl _)
  simp only [Term.eval, ht, e, Option.bind_eq_bind, Option.bind_some] at h
  split at h <;> simp_all
end Jvm.RoadKit
namespace Jvm.Pilot.@@N@@
open Jvm Jvm.ClassFile Sem Op Lib Jvm.Free Jvm.Stand Jvm.LawKit Jvm.RoadKit Bundle Jvm.Pilot.@@N@@.Jvm.D
theorem tw {Z : State} {a0 : Array Value} (hw : ∀ d ∈ tables_1, d.before a0 Z = true) (i : Nat) {d : Jvm.Cond} (h : tables_1[i]? = some d) : d.before a0 Z = true := hw d (List.mem_of_getElem? h)
abbrev MF (l : Launch) (Z : State) (y : MethodName) (cd : Jvm.Cond) (ws : List Jvm.Cond) (rm : Room) (A : Array Value) (h0 : Heap) (Q : Option Value → Heap → List Loc → Prop) : Prop := MetFree l y (head1 (cd :: ws) rm) (fun a U => a = A ∧ Z.Warmed39 U.vm ∧ U.heap = h0) (fun _ _ _ _ _ => True) (fun _ U o U' => ∃ v L, o = .returned v ∧ Q v U'.heap L ∧ FrameEnd U o U' L rm.cells rm.slots)
def Fine (p : Program) (e : Env) (below : List Frame) (s : State) (n0 : Nat) (S0 : State) : Prop := ∃ s₂ o, Steps p.tables e below S0 s₂ ∧ s₂.status = .running ∧ Ended s₂ below o ∧ ∃ v L, o = .returned v ∧ (v = some (.int (1 : Int32)) ∧ Fr n0 L) ∧ FrameEnd s o s₂ L room_1.cells room_1.slots
theorem Fine.pre {p : Program} {e : Env} {below : List Frame} {s S0 S1 : State} {n0 : Nat} (k : ∀ t, Steps p.tables e below S1 t → Steps p.tables e below S0 t) (h : Fine p e below s n0 S1) : Fine p e below s n0 S0 := by
  obtain ⟨u, o, h1, h2⟩ := h; exact ⟨u, o, k _ h1, h2⟩
abbrev SF (p : Program) (e : Env) (below : List Frame) (T : State) (g : JFrame) (t : State) : Prop := Steps p.tables e below (T.setTop g) t
abbrev HW (Z : State) (a0 : Array Value) : Prop := ∀ d ∈ tables_1, d.before a0 Z = true
def Ary (Z : State) (h : Heap) (a : Addr) (k : ClassId) (ty : FieldType) (n : Int32) : Prop := ∃ c : Cell, Arr Z h a c ty ∧ c.cls = k ∧ c.slots.size = n.toNatClampNeg ∧ ¬ n < 0 ∧ ∀ i, i < c.slots.size → ∃ v : Value, c.slots[i]? = some v ∧ v.isRef = true
section Arys
variable {Z : State} {h h' : Heap} {a b : Addr} {k : ClassId} {ty : FieldType} {n : Int32} {sl : Nat} {v : Value} {ws : List Addr} {c : Cell}
theorem Ary.lt (F : Ary Z h a k ty n) : a < h.size := by obtain ⟨c, A, -⟩ := F; exact A.lt
theorem Ary.ext (F : Ary Z h a k ty n) (E : Ext h h') : Ary Z h' a k ty n := by obtain ⟨c, A, r⟩ := F; exact ⟨c, A.ext E, r⟩
theorem Ary.other (F : Ary Z h b k ty n) (W : Wr h h' a sl v) (q : b ≠ a) : Ary Z h' b k ty n := by obtain ⟨c, A, r⟩ := F; exact ⟨c, A.other W q, r⟩
theorem Ary.keep (F : Ary Z h a k ty n) (K : Keep h h' ws) (q : a ∉ ws) : Ary Z h' a k ty n := by obtain ⟨c, A, r⟩ := F; exact ⟨c, ⟨K.2.1 a c A.1 q, A.2⟩, r⟩
theorem Ary.new (A : Arr Z h a (newA k ty n) ty) (q : ¬ n < 0) (hd : (defaultValue ty).isRef = true) : Ary Z h a k ty n := ⟨_, A, rfl, sz_new _ _ _, q, fun i hi => by
  rw [sz_new] at hi; exact ⟨defaultValue ty, by simp [newA, hi], hd⟩⟩
theorem Ary.set (A : Arr Z h a c ty) (q : c.cls = k) (S : c.slots.size = n.toNatClampNeg) (N : ¬ n < 0) (H : ∀ i, i < c.slots.size → ∃ v : Value, c.slots[i]? = some v ∧ v.isRef = true) (hv : v.isRef = true) (W : Wr h h' a sl v) : Ary Z h' a k ty n :=
  ⟨_, A.same W, q, by rw [sz_set]; exact S, N, fun i hi => by
    rw [sz_set] at hi
    by_cases u : sl = i
    · subst u; exact ⟨v, by simp [Cell.setSlot, hi], hv⟩
    · obtain ⟨w, h1, h2⟩ := H i hi
      exact ⟨w, by simp only [Cell.setSlot]; rw [Array.getElem?_setIfInBounds_ne u]; exact h1, h2⟩⟩
end Arys
theorem own_slotA {d i : Int32} (B1 : ¬ d < (0 : Int32) ∧ d < (8 : Int32)) (B2 : ¬ i < (0 : Int32) ∧ i < (8 : Int32)) : (i < ((8 : Int32) - d) → ¬ (d + i) < (0 : Int32) ∧ (d + i) < (8 : Int32)) ∧ (¬ (i < ((8 : Int32) - d)) → ¬ (i - ((8 : Int32) - d)) < (0 : Int32) ∧ (i - ((8 : Int32) - d)) < (8 : Int32)) := by
  have e0 : (0 : Int32).toInt = 0 := rfl
  have e8 : (8 : Int32).toInt = 8 := rfl
  have s1 := c_isub (8 : Int32) d; have s2 := c_iadd d i; have s3 := c_isub i ((8 : Int32) - d)
  have r1 := rng32 ((8 : Int32) - d); have r2 := rng32 (d + i); have r3 := rng32 (i - ((8 : Int32) - d))
  simp only [Int32.lt_iff_toInt_lt, e0, e8] at *
  omega
theorem d1_0 : decode prog_24_method_1_code 0 = .ok (.aload_n 0, 1) := by decide +kernel
theorem d1_1 : decode prog_24_method_1_code 1 = .ok (.invokespecial 3, 3) := by decide +kernel
theorem d1_4 : decode prog_24_method_1_code 4 = .ok (.aload_n 0, 1) := by decide +kernel
theorem d1_5 : decode prog_24_method_1_code 5 = .ok (.bipush 8, 2) := by decide +kernel
theorem d1_7 : decode prog_24_method_1_code 7 = .ok (.anewarray 11, 3) := by decide +kernel
theorem d1_10 : decode prog_24_method_1_code 10 = .ok (.putfield 13, 3) := by decide +kernel
theorem d1_13 : decode prog_24_method_1_code 13 = .ok (.return_, 1) := by decide +kernel
theorem pn_0 : plainName "com/example/afterlog/afterlog/ListValue" = true := by first | (simp [plainName, overriddenIn]; done) | decide +kernel
theorem ef_0 (m : MethodId) (x0 : Addr) : entryFrame m #[(.ref x0)] 1 = mkF m 0 #[.val (.ref x0)] [] := by first | (simp [entryFrame, mkF, argsToLocals, Value.category]; done) | rfl
-- ListValue.init 
def Q1_1 (Z : State) (u1 : Addr) (h0 : Heap) (n0 : Nat) (v : Option Value) (h : Heap) (L : List Loc) : Prop := ∃ e1x : Addr, ∃ e2x : ClassId, h0.size ≤ e1x ∧ v = none ∧ Fr n0 L ∧ Keep h0 h [u1] ∧ Exa Z h u1 "com/example/afterlog/afterlog/ListValue" ∧ Fld Z h u1 "com/example/afterlog/afterlog/ListValue" "elements" "[[B" (.ref e1x) ∧ Fld Z h u1 "com/example/afterlog/afterlog/ListValue" "size" "I" (.int 0) ∧ Fld Z h u1 "com/example/afterlog/afterlog/ListValue" "head" "I" (.int 0) ∧ Ary Z h e1x e2x (.array .byte) (8 : Int32) ∧ Exa Z h e1x "[[B" ∧ OvrA Z e2x .byte "[B"
set_option maxRecDepth 65536 in
set_option maxHeartbeats 40000000 in
theorem rm1_1 (l : Launch) (Z : State) (a0 : Array Value) (hw : HW Z a0) (ws : List Jvm.Cond) (u1 : Addr) (h0 : Heap) (n0 : Nat) (Z0 : n0 ≤ h0.size) (P1 : Exa Z h0 u1 "com/example/afterlog/afterlog/ListValue") (P2 : Fld Z h0 u1 "com/example/afterlog/afterlog/ListValue" "elements" "[[B" .null) (P3 : Fld Z h0 u1 "com/example/afterlog/afterlog/ListValue" "size" "I" (.int 0)) (P4 : Fld Z h0 u1 "com/example/afterlog/afterlog/ListValue" "head" "I" (.int 0)) (P5 : n0 ≤ u1) (P6 : u1 < h0.size) :
    MF l Z (⟨"com/example/afterlog/afterlog/ListValue", "<init>", "()V"⟩ : MethodName) (Jvm.Cond.code (⟨"com/example/afterlog/afterlog/ListValue", "<init>", "()V"⟩ : MethodName) prog_24_method_1_code 1 none) ws ({ frames := 1, cells := 1, slots := 8, locals := 12 } : Room) #[(.ref u1)] h0 (Q1_1 Z u1 h0 n0) := by
  refine MetFree.of_bodySF (plainFor_of_name pn_0) hisR ?_
  intro p e s m args below meth c s₁ Bd hml0 hP hK
  obtain ⟨rfl, hZ, hh⟩ := hP
  have hx := Bd.exec
  have hby := Bd.bytes
  have hml : c.maxLocals = 1 := hml0
  have hown : s.vm.findClass "com/example/afterlog/afterlog/ListValue" = some m.cls := findClass_of_methodNamed Bd.named
  have hnm := (name_of_methodNamed Bd.named Bd.method).1
  have X0 : Stand p l e ({ frames := 1, cells := 1, slots := 8, locals := 12 } : Room) s m #[(.ref u1)] below meth c s₁ [] 0 0 := Stand.of_body Bd
  have e0 : s₁.heap = h0 := by rw [← hh, Bd.state]; rfl
  have N0 := Fr.nil n0
  have pre0 : ∀ t, SF p e below s₁ (mkF m 0 #[rv u1] []) t → SF p e below s₁ (entryFrame m #[(.ref u1)] 1) t := fun t k => castTop (ef_0 m u1) k
  obtain ⟨T1, X1, e1, st1⟩ := initO X0 hx hZ hown (tw hw 7 rfl) (tw hw 8 rfl) (tw hw 9 rfl) e0 (g := (mkF m 1 #[rv u1] [(.ref u1)])) rfl (by rw [hml]; rfl) rfl (hb hby d1_1) (by decide) (W := 0) (by show 2 * 0 + _ ≤ _; exact Nat.le_of_eq rfl) (by decide)
  obtain ⟨T2, h2, e2x, X2, e2, E2, A2, Ex2, Ov2, st2⟩ := newRA X1 hx hZ hown (ty := .byte) (C := "[B") rfl (tw hw 10 rfl) (tw hw 11 rfl) e1 (g := (mkF m 7 #[rv u1] [(.int 8), (.ref u1)])) rfl (hb hby d1_7) rfl (by decide) (cap := 8) (by decide) (by decide) (by decide) (by decide) (ad := "[[B") rfl
  obtain ⟨e1x, g2⟩ : ∃ z, z = h0.size := ⟨_, rfl⟩
  rw [← g2] at A2 st2 Ex2
  have K2 : Keep h0 h2 [u1] := (Keep.refl h0 [u1]).ext E2
  have V2 : Ary Z h2 e1x e2x (.array .byte) (8 : Int32) := Ary.new A2 (by decide) rfl
  have F1_3 : Exa Z h2 u1 "com/example/afterlog/afterlog/ListValue" := P1.ext E2
  have F1_4 : Fld Z h2 u1 "com/example/afterlog/afterlog/ListValue" "elements" "[[B" .null := P2.ext E2
  have F1_5 : Fld Z h2 u1 "com/example/afterlog/afterlog/ListValue" "size" "I" (.int 0) := P3.ext E2
  have F1_6 : Fld Z h2 u1 "com/example/afterlog/afterlog/ListValue" "head" "I" (.int 0) := P4.ext E2
  obtain ⟨T7, h7, X7, e7, W7, st7⟩ := putF X2 hx hZ hown (host := "") (Or.inl (tw hw 12 rfl)) Via.refl e2 F1_4 F1_3 (Or.inl (tw hw 13 rfl)) (tw hw 2 rfl) (ty := (.array (.array .byte))) (by decide) rfl rfl (g := (mkF m 10 #[rv u1] [(.ref e1x), (.ref u1)])) rfl rfl (hb hby d1_10)
  have K7 : Keep h0 h7 [u1] := K2.wr W7 (Or.inl (List.mem_of_getElem? (i := 0) rfl))
  have N7 := Fr.snoc X7 N0 P5
  have Fw7 : Fld Z h7 u1 "com/example/afterlog/afterlog/ListValue" "elements" "[[B" (.ref e1x) := F1_4.same W7
  have F2_8 : Exa Z h7 u1 "com/example/afterlog/afterlog/ListValue" := F1_3.wr W7
  have F2_9 : Fld Z h7 u1 "com/example/afterlog/afterlog/ListValue" "size" "I" (.int 0) := F1_5.other W7 (Or.inr (slot_ne (Or.inl (tw hw 20 rfl)) (Or.inl (tw hw 13 rfl)) (by decide) (t := .int) (t' := (.array (.array .byte))) (by decide) (by decide)))
  have F2_10 : Fld Z h7 u1 "com/example/afterlog/afterlog/ListValue" "head" "I" (.int 0) := F1_6.other W7 (Or.inr (slot_ne (Or.inl (tw hw 40 rfl)) (Or.inl (tw hw 13 rfl)) (by decide) (t := .int) (t' := (.array (.array .byte))) (by decide) (by decide)))
  have F2_11 : Ary Z h7 e1x e2x (.array .byte) (8 : Int32) := V2.other W7 (Ne.symm (Nat.ne_of_lt (Nat.lt_of_lt_of_le P6 (Nat.le_of_eq g2.symm))))
  have F2_12 : Exa Z h7 e1x "[[B" := Ex2.wr W7
  have sz0_b3 : h0.size ≤ e1x := Nat.le_trans (Keep.refl h0 [u1]).1 (Nat.le_of_eq g2.symm)
  obtain ⟨fs, hr, hrun, hended, hW, hsame⟩ := X7.leave (v := none) (fun _ => rfl)
  refine ⟨_, _, pre0 _ ?_, hrun, hended, _, _, rfl, ?_, ⟨_, rfl⟩, hW, hsame.mono (by decide) (by decide)⟩
  · show SF p e below s₁ (mkF m 0 #[rv u1] []) _
    refine XS.aloadN X0.here hx rfl (hb hby d1_0) rfl rfl ?_
    show SF p e below s₁ (mkF m 1 #[rv u1] [(.ref u1)]) _
    refine st1 _ ?_
    show SF p e below T1 (mkF m 4 #[rv u1] []) _
    refine XS.aloadN X1.here hx rfl (hb hby d1_4) rfl rfl ?_
    show SF p e below T1 (mkF m 5 #[rv u1] [(.ref u1)]) _
    refine XS.bipush X1.here hx rfl (hb hby d1_5) ?_
    show SF p e below T1 (mkF m 7 #[rv u1] [(.int 8), (.ref u1)]) _
    refine st2 _ ?_
    show SF p e below T2 (mkF m 10 #[rv u1] [(.ref e1x), (.ref u1)]) _
    refine st7 _ ?_
    show SF p e below T7 (mkF m 13 #[rv u1] []) _
    exact X7.returnOut hx Bd.returns (hb hby d1_13) hr
  · show Q1_1 Z u1 h0 n0 _ T7.heap _
    rw [e7]
    exact ⟨e1x, e2x, sz0_b3, rfl, N7, K7, F2_8, Fw7, F2_9, F2_10, F2_11, F2_12, Ov2⟩
theorem pd_0 : parseMethodDescriptor "()V" = some ⟨[], none⟩ := by decide +kernel
theorem d3_0 : decode prog_24_method_3_code 0 = .ok (.aload_n 0, 1) := by decide +kernel
theorem d3_1 : decode prog_24_method_3_code 1 = .ok (.getfield 17, 3) := by decide +kernel
theorem d3_4 : decode prog_24_method_3_code 4 = .ok (.ifCond .ne 7, 3) := by decide +kernel
theorem d3_7 : decode prog_24_method_3_code 7 = .ok (.iconst 1, 1) := by decide +kernel
theorem d3_8 : decode prog_24_method_3_code 8 = .ok (.goto 4, 3) := by decide +kernel
theorem d3_12 : decode prog_24_method_3_code 12 = .ok (.ireturn, 1) := by decide +kernel
theorem ef_1 (m : MethodId) (x0 : Addr) : entryFrame m #[(.ref x0)] 1 = mkF m 0 #[.val (.ref x0)] [] := by first | (simp [entryFrame, mkF, argsToLocals, Value.category]; done) | rfl
-- ListValue.isEmpty 
def Q3_2 (Z : State) (u1 : Addr) (h0 : Heap) (n0 : Nat) (v : Option Value) (h : Heap) (L : List Loc) : Prop := v = some (.int 1) ∧ Fr n0 L ∧ h = h0
set_option maxRecDepth 65536 in
set_option maxHeartbeats 40000000 in
theorem rm3_2 (l : Launch) (Z : State) (a0 : Array Value) (hw : HW Z a0) (ws : List Jvm.Cond) (u1 : Addr) (h0 : Heap) (n0 : Nat) (Z0 : n0 ≤ h0.size) (P1 : Fld Z h0 u1 "com/example/afterlog/afterlog/ListValue" "size" "I" (.int 0)) :
    MF l Z (⟨"com/example/afterlog/afterlog/ListValue", "isEmpty", "()Z"⟩ : MethodName) (Jvm.Cond.code (⟨"com/example/afterlog/afterlog/ListValue", "isEmpty", "()Z"⟩ : MethodName) prog_24_method_3_code 1 (some .boolean)) ws ({ frames := 0, cells := 0, slots := 0, locals := 0 } : Room) #[(.ref u1)] h0 (Q3_2 Z u1 h0 n0) := by
  refine MetFree.of_bodySF (plainFor_of_name pn_0) hisR ?_
  intro p e s m args below meth c s₁ Bd hml0 hP hK
  obtain ⟨rfl, hZ, hh⟩ := hP
  have hx := Bd.exec
  have hby := Bd.bytes
  have hml : c.maxLocals = 1 := hml0
  have hown : s.vm.findClass "com/example/afterlog/afterlog/ListValue" = some m.cls := findClass_of_methodNamed Bd.named
  have hnm := (name_of_methodNamed Bd.named Bd.method).1
  have X0 : Stand p l e ({ frames := 0, cells := 0, slots := 0, locals := 0 } : Room) s m #[(.ref u1)] below meth c s₁ [] 0 0 := Stand.of_body Bd
  have e0 : s₁.heap = h0 := by rw [← hh, Bd.state]; rfl
  have N0 := Fr.nil n0
  have pre0 : ∀ t, SF p e below s₁ (mkF m 0 #[rv u1] []) t → SF p e below s₁ (entryFrame m #[(.ref u1)] 1) t := fun t k => castTop (ef_1 m u1) k
  obtain ⟨T1, X1, e1, st1⟩ := getF X0 hx hZ hown (host := "") (Or.inl (tw hw 19 rfl)) Via.refl e0 P1 (g := (mkF m 1 #[rv u1] [(.ref u1)])) rfl rfl (hb hby d3_1)
  obtain ⟨fs, hr, hrun, hended, hW, hsame⟩ := X1.leave (v := some (.int 1)) (fun h => by rw [Bd.returns] at h; cases h)
  refine ⟨_, _, pre0 _ ?_, hrun, hended, _, _, rfl, ?_, ⟨_, rfl⟩, hW, hsame.mono (by decide) (by decide)⟩
  · show SF p e below s₁ (mkF m 0 #[rv u1] []) _
    refine XS.aloadN X0.here hx rfl (hb hby d3_0) rfl rfl ?_
    show SF p e below s₁ (mkF m 1 #[rv u1] [(.ref u1)]) _
    refine st1 _ ?_
    show SF p e below T1 (mkF m 4 #[rv u1] [(.int 0)]) _
    refine XS.ifNo X1.here hx rfl (hb hby d3_4) rfl ((if0 _ _).trans (teq (by decide : (0 : Int32) = (0 : Int32))).2) ?_
    show SF p e below T1 (mkF m 7 #[rv u1] []) _
    refine XS.iconst X1.here hx rfl (hb hby d3_7) ?_
    show SF p e below T1 (mkF m 8 #[rv u1] [(.int 1)]) _
    refine XS.goto X1.here hx rfl (pc0 := 8) (pc' := 12) rfl (hb hby d3_8) (by decide) (by decide) ?_
    show SF p e below T1 (mkF m 12 #[rv u1] [(.int 1)]) _
    exact retN X1 hx (t := .boolean) Bd.returns (by simp) (hb hby d3_12) hr
  · show Q3_2 Z u1 h0 n0 _ T1.heap _
    rw [e1]
    exact ⟨rfl, N0, rfl⟩
theorem pd_1 : parseMethodDescriptor "()Z" = some ⟨[], some .boolean⟩ := by decide +kernel
theorem d4_0 : decode method_3_code 0 = .ok (.iload_n 2, 1) := by decide +kernel
theorem d4_1 : decode method_3_code 1 = .ok (.iconst 2, 1) := by decide +kernel
theorem d4_2 : decode method_3_code 2 = .ok (.iand, 1) := by decide +kernel
theorem d4_3 : decode method_3_code 3 = .ok (.ifCond .eq 9, 3) := by decide +kernel
theorem d4_12 : decode method_3_code 12 = .ok (.getstatic 26, 3) := by decide +kernel
theorem d4_15 : decode method_3_code 15 = .ok (.astore 4, 2) := by decide +kernel
theorem d4_17 : decode method_3_code 17 = .ok (.iload_n 2, 1) := by decide +kernel
theorem d4_18 : decode method_3_code 18 = .ok (.iconst 1, 1) := by decide +kernel
theorem d4_19 : decode method_3_code 19 = .ok (.iand, 1) := by decide +kernel
theorem d4_20 : decode method_3_code 20 = .ok (.ifCond .eq 18, 3) := by decide +kernel
theorem d4_38 : decode method_3_code 38 = .ok (.aload_n 0, 1) := by decide +kernel
theorem d4_39 : decode method_3_code 39 = .ok (.aload 4, 2) := by decide +kernel
theorem d4_41 : decode method_3_code 41 = .ok (.aload_n 3, 1) := by decide +kernel
theorem d4_42 : decode method_3_code 42 = .ok (.invokevirtual 33, 3) := by decide +kernel
theorem d5_0 : decode prog_24_method_6_code 0 = .ok (.aload_n 0, 1) := by decide +kernel
theorem d5_1 : decode prog_24_method_6_code 1 = .ok (.getfield 17, 3) := by decide +kernel
theorem d5_4 : decode prog_24_method_6_code 4 = .ok (.aload_n 0, 1) := by decide +kernel
theorem d5_5 : decode prog_24_method_6_code 5 = .ok (.getfield 13, 3) := by decide +kernel
theorem d5_8 : decode prog_24_method_6_code 8 = .ok (.arraylength, 1) := by decide +kernel
theorem d5_9 : decode prog_24_method_6_code 9 = .ok (.if_icmp .ne 7, 3) := by decide +kernel
theorem d5_16 : decode prog_24_method_6_code 16 = .ok (.aload_n 1, 1) := by decide +kernel
theorem d5_17 : decode prog_24_method_6_code 17 = .ok (.getstatic 37, 3) := by decide +kernel
theorem d5_20 : decode prog_24_method_6_code 20 = .ok (.if_acmp .ne 31, 3) := by decide +kernel
theorem d5_51 : decode prog_24_method_6_code 51 = .ok (.aload_n 0, 1) := by decide +kernel
theorem d5_52 : decode prog_24_method_6_code 52 = .ok (.getfield 13, 3) := by decide +kernel
theorem d5_55 : decode prog_24_method_6_code 55 = .ok (.aload_n 0, 1) := by decide +kernel
theorem d5_56 : decode prog_24_method_6_code 56 = .ok (.aload_n 0, 1) := by decide +kernel
theorem d5_57 : decode prog_24_method_6_code 57 = .ok (.getfield 17, 3) := by decide +kernel
theorem d5_60 : decode prog_24_method_6_code 60 = .ok (.invokevirtual 30, 3) := by decide +kernel
theorem d6_0 : decode prog_24_method_8_code 0 = .ok (.aload_n 0, 1) := by decide +kernel
theorem d6_1 : decode prog_24_method_8_code 1 = .ok (.getfield 13, 3) := by decide +kernel
theorem d6_4 : decode prog_24_method_8_code 4 = .ok (.arraylength, 1) := by decide +kernel
theorem d6_5 : decode prog_24_method_8_code 5 = .ok (.aload_n 0, 1) := by decide +kernel
theorem d6_6 : decode prog_24_method_8_code 6 = .ok (.getfield 27, 3) := by decide +kernel
theorem d6_9 : decode prog_24_method_8_code 9 = .ok (.isub, 1) := by decide +kernel
theorem d6_10 : decode prog_24_method_8_code 10 = .ok (.istore_n 2, 1) := by decide +kernel
theorem d6_11 : decode prog_24_method_8_code 11 = .ok (.iload_n 1, 1) := by decide +kernel
theorem d6_12 : decode prog_24_method_8_code 12 = .ok (.iload_n 2, 1) := by decide +kernel
theorem d6_13 : decode prog_24_method_8_code 13 = .ok (.if_icmp .ge 12, 3) := by decide +kernel
theorem d6_16 : decode prog_24_method_8_code 16 = .ok (.aload_n 0, 1) := by decide +kernel
theorem d6_17 : decode prog_24_method_8_code 17 = .ok (.getfield 27, 3) := by decide +kernel
theorem d6_20 : decode prog_24_method_8_code 20 = .ok (.iload_n 1, 1) := by decide +kernel
theorem d6_21 : decode prog_24_method_8_code 21 = .ok (.iadd, 1) := by decide +kernel
theorem d6_22 : decode prog_24_method_8_code 22 = .ok (.goto 6, 3) := by decide +kernel
theorem d6_28 : decode prog_24_method_8_code 28 = .ok (.ireturn, 1) := by decide +kernel
theorem ef_2 (m : MethodId) (x0 : Addr) (x1 : Int32) : entryFrame m #[(.ref x0), (.int x1)] 3 = mkF m 0 #[.val (.ref x0), .val (.int x1), .unset] [] := by first | (simp [entryFrame, mkF, argsToLocals, Value.category]; done) | rfl
-- ListValue.slot 
def Q6_3 (Z : State) (u1 : Addr) (u2 : Int32) (u3 : Addr) (u4 : ClassId) (u5 : Int32) (h0 : Heap) (n0 : Nat) (v : Option Value) (h : Heap) (L : List Loc) : Prop := v = some (.int (u5 + u2)) ∧ Fr n0 L ∧ h = h0
set_option maxRecDepth 65536 in
set_option maxHeartbeats 40000000 in
theorem rm6_3 (l : Launch) (Z : State) (a0 : Array Value) (hw : HW Z a0) (ws : List Jvm.Cond) (u1 : Addr) (u2 : Int32) (u3 : Addr) (u4 : ClassId) (u5 : Int32) (h0 : Heap) (n0 : Nat) (Z0 : n0 ≤ h0.size) (P1 : Fld Z h0 u1 "com/example/afterlog/afterlog/ListValue" "elements" "[[B" (.ref u3)) (P2 : Ary Z h0 u3 u4 (.array .byte) (8 : Int32)) (P3 : Fld Z h0 u1 "com/example/afterlog/afterlog/ListValue" "head" "I" (.int u5)) (P4 : u2 < ((8 : Int32) - u5)) :
    MF l Z (⟨"com/example/afterlog/afterlog/ListValue", "slot", "(I)I"⟩ : MethodName) (Jvm.Cond.code (⟨"com/example/afterlog/afterlog/ListValue", "slot", "(I)I"⟩ : MethodName) prog_24_method_8_code 3 (some .int)) ws ({ frames := 0, cells := 0, slots := 0, locals := 0 } : Room) #[(.ref u1), (.int u2)] h0 (Q6_3 Z u1 u2 u3 u4 u5 h0 n0) := by
  refine MetFree.of_bodySF (plainFor_of_name pn_0) hisR ?_
  intro p e s m args below meth c s₁ Bd hml0 hP hK
  obtain ⟨rfl, hZ, hh⟩ := hP
  have hx := Bd.exec
  have hby := Bd.bytes
  have hml : c.maxLocals = 3 := hml0
  have hown : s.vm.findClass "com/example/afterlog/afterlog/ListValue" = some m.cls := findClass_of_methodNamed Bd.named
  have hnm := (name_of_methodNamed Bd.named Bd.method).1
  have X0 : Stand p l e ({ frames := 0, cells := 0, slots := 0, locals := 0 } : Room) s m #[(.ref u1), (.int u2)] below meth c s₁ [] 0 0 := Stand.of_body Bd
  have e0 : s₁.heap = h0 := by rw [← hh, Bd.state]; rfl
  have N0 := Fr.nil n0
  have pre0 : ∀ t, SF p e below s₁ (mkF m 0 #[rv u1, iv u2, .unset] []) t → SF p e below s₁ (entryFrame m #[(.ref u1), (.int u2)] 3) t := fun t k => castTop (ef_2 m u1 u2) k
  obtain ⟨T1, X1, e1, st1⟩ := getF X0 hx hZ hown (host := "") (Or.inl (tw hw 12 rfl)) Via.refl e0 P1 (g := (mkF m 1 #[rv u1, iv u2, .unset] [(.ref u1)])) rfl rfl (hb hby d6_1)
  obtain ⟨cl2, Ar2, q2, S2, N2z, H2⟩ := id P2
  obtain ⟨T3, X3, e3, st3⟩ := getF X1 hx hZ hown (host := "") (Or.inl (tw hw 39 rfl)) Via.refl e1 P3 (g := (mkF m 6 #[rv u1, iv u2, .unset] [(.ref u1), (.int 8)])) rfl rfl (hb hby d6_6)
  obtain ⟨T4, X4, e4, st4⟩ := getF X3 hx hZ hown (host := "") (Or.inl (tw hw 39 rfl)) Via.refl e3 P3 (g := (mkF m 17 #[rv u1, iv u2, iv ((8 : Int32) - u5)] [(.ref u1)])) rfl rfl (hb hby d6_17)
  obtain ⟨fs, hr, hrun, hended, hW, hsame⟩ := X4.leave (v := some (.int (u5 + u2))) (fun h => by rw [Bd.returns] at h; cases h)
  refine ⟨_, _, pre0 _ ?_, hrun, hended, _, _, rfl, ?_, ⟨_, rfl⟩, hW, hsame.mono (by decide) (by decide)⟩
  · show SF p e below s₁ (mkF m 0 #[rv u1, iv u2, .unset] []) _
    refine XS.aloadN X0.here hx rfl (hb hby d6_0) rfl rfl ?_
    show SF p e below s₁ (mkF m 1 #[rv u1, iv u2, .unset] [(.ref u1)]) _
    refine st1 _ ?_
    show SF p e below T1 (mkF m 4 #[rv u1, iv u2, .unset] [(.ref u3)]) _
    refine X1.arraylength hx (by rw [e1]; exact Ar2.1) (State.isArrayOf_alike hZ.alike Ar2.2.1) (g := (mkF m 4 #[rv u1, iv u2, .unset] [(.ref u3)])) rfl rfl (hb hby d6_4) _ ?_
    rw [len_of S2 N2z]
    show SF p e below T1 (mkF m 5 #[rv u1, iv u2, .unset] [(.int 8)]) _
    refine XS.aloadN X1.here hx rfl (hb hby d6_5) rfl rfl ?_
    show SF p e below T1 (mkF m 6 #[rv u1, iv u2, .unset] [(.ref u1), (.int 8)]) _
    refine st3 _ ?_
    show SF p e below T3 (mkF m 9 #[rv u1, iv u2, .unset] [(.int u5), (.int 8)]) _
    refine XS.isub X3.here hx rfl (hb hby d6_9) rfl ?_
    show SF p e below T3 (mkF m 10 #[rv u1, iv u2, .unset] [(.int ((8 : Int32) - u5))]) _
    refine XS.istoreN X3.here hx rfl (hb hby d6_10) rfl (l' := #[rv u1, iv u2, iv ((8 : Int32) - u5)]) rfl ?_
    show SF p e below T3 (mkF m 11 #[rv u1, iv u2, iv ((8 : Int32) - u5)] []) _
    refine XS.iloadN X3.here hx rfl (hb hby d6_11) rfl ?_
    show SF p e below T3 (mkF m 12 #[rv u1, iv u2, iv ((8 : Int32) - u5)] [(.int u2)]) _
    refine XS.iloadN X3.here hx rfl (hb hby d6_12) rfl ?_
    show SF p e below T3 (mkF m 13 #[rv u1, iv u2, iv ((8 : Int32) - u5)] [(.int ((8 : Int32) - u5)), (.int u2)]) _
    refine XS.icmpNo X3.here hx rfl (hb hby d6_13) rfl (tlt P4).2.1 ?_
    show SF p e below T3 (mkF m 16 #[rv u1, iv u2, iv ((8 : Int32) - u5)] []) _
    refine XS.aloadN X3.here hx rfl (hb hby d6_16) rfl rfl ?_
    show SF p e below T3 (mkF m 17 #[rv u1, iv u2, iv ((8 : Int32) - u5)] [(.ref u1)]) _
    refine st4 _ ?_
    show SF p e below T4 (mkF m 20 #[rv u1, iv u2, iv ((8 : Int32) - u5)] [(.int u5)]) _
    refine XS.iloadN X4.here hx rfl (hb hby d6_20) rfl ?_
    show SF p e below T4 (mkF m 21 #[rv u1, iv u2, iv ((8 : Int32) - u5)] [(.int u2), (.int u5)]) _
    refine XS.iadd X4.here hx rfl (hb hby d6_21) rfl ?_
    show SF p e below T4 (mkF m 22 #[rv u1, iv u2, iv ((8 : Int32) - u5)] [(.int (u5 + u2))]) _
    refine XS.goto X4.here hx rfl (pc0 := 22) (pc' := 28) rfl (hb hby d6_22) (by decide) (by decide) ?_
    show SF p e below T4 (mkF m 28 #[rv u1, iv u2, iv ((8 : Int32) - u5)] [(.int (u5 + u2))]) _
    exact retI X4 hx Bd.returns (hb hby d6_28) hr
  · show Q6_3 Z u1 u2 u3 u4 u5 h0 n0 _ T4.heap _
    rw [e4]
    exact ⟨rfl, N0, rfl⟩
theorem d6_25 : decode prog_24_method_8_code 25 = .ok (.iload_n 1, 1) := by decide +kernel
theorem d6_26 : decode prog_24_method_8_code 26 = .ok (.iload_n 2, 1) := by decide +kernel
theorem d6_27 : decode prog_24_method_8_code 27 = .ok (.isub, 1) := by decide +kernel
-- ListValue.slot 
def Q6_4 (Z : State) (u1 : Addr) (u2 : Int32) (u3 : Addr) (u4 : ClassId) (u5 : Int32) (h0 : Heap) (n0 : Nat) (v : Option Value) (h : Heap) (L : List Loc) : Prop := v = some (.int (u2 - ((8 : Int32) - u5))) ∧ Fr n0 L ∧ h = h0
set_option maxRecDepth 65536 in
set_option maxHeartbeats 40000000 in
theorem rm6_4 (l : Launch) (Z : State) (a0 : Array Value) (hw : HW Z a0) (ws : List Jvm.Cond) (u1 : Addr) (u2 : Int32) (u3 : Addr) (u4 : ClassId) (u5 : Int32) (h0 : Heap) (n0 : Nat) (Z0 : n0 ≤ h0.size) (P1 : Fld Z h0 u1 "com/example/afterlog/afterlog/ListValue" "elements" "[[B" (.ref u3)) (P2 : Ary Z h0 u3 u4 (.array .byte) (8 : Int32)) (P3 : Fld Z h0 u1 "com/example/afterlog/afterlog/ListValue" "head" "I" (.int u5)) (P4 : ¬ (u2 < ((8 : Int32) - u5))) :
    MF l Z (⟨"com/example/afterlog/afterlog/ListValue", "slot", "(I)I"⟩ : MethodName) (Jvm.Cond.code (⟨"com/example/afterlog/afterlog/ListValue", "slot", "(I)I"⟩ : MethodName) prog_24_method_8_code 3 (some .int)) ws ({ frames := 0, cells := 0, slots := 0, locals := 0 } : Room) #[(.ref u1), (.int u2)] h0 (Q6_4 Z u1 u2 u3 u4 u5 h0 n0) := by
  refine MetFree.of_bodySF (plainFor_of_name pn_0) hisR ?_
  intro p e s m args below meth c s₁ Bd hml0 hP hK
  obtain ⟨rfl, hZ, hh⟩ := hP
  have hx := Bd.exec
  have hby := Bd.bytes
  have hml : c.maxLocals = 3 := hml0
  have hown : s.vm.findClass "com/example/afterlog/afterlog/ListValue" = some m.cls := findClass_of_methodNamed Bd.named
  have hnm := (name_of_methodNamed Bd.named Bd.method).1
  have X0 : Stand p l e ({ frames := 0, cells := 0, slots := 0, locals := 0 } : Room) s m #[(.ref u1), (.int u2)] below meth c s₁ [] 0 0 := Stand.of_body Bd
  have e0 : s₁.heap = h0 := by rw [← hh, Bd.state]; rfl
  have N0 := Fr.nil n0
  have pre0 : ∀ t, SF p e below s₁ (mkF m 0 #[rv u1, iv u2, .unset] []) t → SF p e below s₁ (entryFrame m #[(.ref u1), (.int u2)] 3) t := fun t k => castTop (ef_2 m u1 u2) k
  obtain ⟨T1, X1, e1, st1⟩ := getF X0 hx hZ hown (host := "") (Or.inl (tw hw 12 rfl)) Via.refl e0 P1 (g := (mkF m 1 #[rv u1, iv u2, .unset] [(.ref u1)])) rfl rfl (hb hby d6_1)
  obtain ⟨cl2, Ar2, q2, S2, N2z, H2⟩ := id P2
  obtain ⟨T3, X3, e3, st3⟩ := getF X1 hx hZ hown (host := "") (Or.inl (tw hw 39 rfl)) Via.refl e1 P3 (g := (mkF m 6 #[rv u1, iv u2, .unset] [(.ref u1), (.int 8)])) rfl rfl (hb hby d6_6)
  obtain ⟨fs, hr, hrun, hended, hW, hsame⟩ := X3.leave (v := some (.int (u2 - ((8 : Int32) - u5)))) (fun h => by rw [Bd.returns] at h; cases h)
  refine ⟨_, _, pre0 _ ?_, hrun, hended, _, _, rfl, ?_, ⟨_, rfl⟩, hW, hsame.mono (by decide) (by decide)⟩
  · show SF p e below s₁ (mkF m 0 #[rv u1, iv u2, .unset] []) _
    refine XS.aloadN X0.here hx rfl (hb hby d6_0) rfl rfl ?_
    show SF p e below s₁ (mkF m 1 #[rv u1, iv u2, .unset] [(.ref u1)]) _
    refine st1 _ ?_
    show SF p e below T1 (mkF m 4 #[rv u1, iv u2, .unset] [(.ref u3)]) _
    refine X1.arraylength hx (by rw [e1]; exact Ar2.1) (State.isArrayOf_alike hZ.alike Ar2.2.1) (g := (mkF m 4 #[rv u1, iv u2, .unset] [(.ref u3)])) rfl rfl (hb hby d6_4) _ ?_
    rw [len_of S2 N2z]
    show SF p e below T1 (mkF m 5 #[rv u1, iv u2, .unset] [(.int 8)]) _
    refine XS.aloadN X1.here hx rfl (hb hby d6_5) rfl rfl ?_
    show SF p e below T1 (mkF m 6 #[rv u1, iv u2, .unset] [(.ref u1), (.int 8)]) _
    refine st3 _ ?_
    show SF p e below T3 (mkF m 9 #[rv u1, iv u2, .unset] [(.int u5), (.int 8)]) _
    refine XS.isub X3.here hx rfl (hb hby d6_9) rfl ?_
    show SF p e below T3 (mkF m 10 #[rv u1, iv u2, .unset] [(.int ((8 : Int32) - u5))]) _
    refine XS.istoreN X3.here hx rfl (hb hby d6_10) rfl (l' := #[rv u1, iv u2, iv ((8 : Int32) - u5)]) rfl ?_
    show SF p e below T3 (mkF m 11 #[rv u1, iv u2, iv ((8 : Int32) - u5)] []) _
    refine XS.iloadN X3.here hx rfl (hb hby d6_11) rfl ?_
    show SF p e below T3 (mkF m 12 #[rv u1, iv u2, iv ((8 : Int32) - u5)] [(.int u2)]) _
    refine XS.iloadN X3.here hx rfl (hb hby d6_12) rfl ?_
    show SF p e below T3 (mkF m 13 #[rv u1, iv u2, iv ((8 : Int32) - u5)] [(.int ((8 : Int32) - u5)), (.int u2)]) _
    refine XS.icmpYes X3.here hx rfl (pc0 := 13) (pc' := 25) rfl (hb hby d6_13) rfl (flt P4).2.1 (by decide) (by decide) ?_
    show SF p e below T3 (mkF m 25 #[rv u1, iv u2, iv ((8 : Int32) - u5)] []) _
    refine XS.iloadN X3.here hx rfl (hb hby d6_25) rfl ?_
    show SF p e below T3 (mkF m 26 #[rv u1, iv u2, iv ((8 : Int32) - u5)] [(.int u2)]) _
    refine XS.iloadN X3.here hx rfl (hb hby d6_26) rfl ?_
    show SF p e below T3 (mkF m 27 #[rv u1, iv u2, iv ((8 : Int32) - u5)] [(.int ((8 : Int32) - u5)), (.int u2)]) _
    refine XS.isub X3.here hx rfl (hb hby d6_27) rfl ?_
    show SF p e below T3 (mkF m 28 #[rv u1, iv u2, iv ((8 : Int32) - u5)] [(.int (u2 - ((8 : Int32) - u5)))]) _
    exact retI X3 hx Bd.returns (hb hby d6_28) hr
  · show Q6_4 Z u1 u2 u3 u4 u5 h0 n0 _ T3.heap _
    rw [e3]
    exact ⟨rfl, N0, rfl⟩
def Qslot (h0 : Heap) (n0 : Nat) (v : Option Value) (h : Heap) (L : List Loc) : Prop := ∃ r : Int32, (¬ r < (0 : Int32) ∧ r < (8 : Int32)) ∧ v = some (.int r) ∧ Fr n0 L ∧ h = h0
theorem own_slot (l : Launch) (Z : State) (a0 : Array Value) (hw : HW Z a0) (ws : List Jvm.Cond) (sl se : Addr) (sk : ClassId) (sd si : Int32) (h0 : Heap) (n0 : Nat) (Z0 : n0 ≤ h0.size) (F1 : Fld Z h0 sl "com/example/afterlog/afterlog/ListValue" "elements" "[[B" (.ref se)) (F2 : Fld Z h0 sl "com/example/afterlog/afterlog/ListValue" "head" "I" (.int sd)) (F3 : Ary Z h0 se sk (.array .byte) (8 : Int32)) (B1 : ¬ sd < (0 : Int32) ∧ sd < (8 : Int32)) (B2 : ¬ si < (0 : Int32) ∧ si < (8 : Int32)) :
    MF l Z (⟨"com/example/afterlog/afterlog/ListValue", "slot", "(I)I"⟩ : MethodName) (Jvm.Cond.code (⟨"com/example/afterlog/afterlog/ListValue", "slot", "(I)I"⟩ : MethodName) prog_24_method_8_code 3 (some .int)) ws ({ frames := 0, cells := 0, slots := 0, locals := 0 } : Room) #[(.ref sl), (.int si)] h0 (Qslot h0 n0) := by
  have A := own_slotA B1 B2
  by_cases hs : si < ((8 : Int32) - sd)
  · intro p e ha hc hk s m args below hf happ hP hK
    obtain ⟨n, o, h1, h2, h3, v, L, rfl, ⟨q1, q2, q3⟩, hF⟩ := rm6_3 l Z a0 hw ws sl si se sk sd h0 n0 Z0 F1 F3 F2 hs p e ha hc hk s m args below hf happ hP hK
    exact ⟨n, _, h1, h2, h3, v, L, rfl, ⟨_, A.1 hs, q1, q2, q3⟩, hF⟩
  · intro p e ha hc hk s m args below hf happ hP hK
    obtain ⟨n, o, h1, h2, h3, v, L, rfl, ⟨q1, q2, q3⟩, hF⟩ := rm6_4 l Z a0 hw ws sl si se sk sd h0 n0 Z0 F1 F3 F2 hs p e ha hc hk s m args below hf happ hP hK
    exact ⟨n, _, h1, h2, h3, v, L, rfl, ⟨_, A.2 hs, q1, q2, q3⟩, hF⟩
theorem pd_2 : parseMethodDescriptor "(I)I" = some ⟨[.int], some .int⟩ := by decide +kernel
theorem d5_63 : decode prog_24_method_6_code 63 = .ok (.aload_n 2, 1) := by decide +kernel
theorem d5_64 : decode prog_24_method_6_code 64 = .ok (.aastore, 1) := by decide +kernel
theorem d5_65 : decode prog_24_method_6_code 65 = .ok (.aload_n 0, 1) := by decide +kernel
theorem d5_66 : decode prog_24_method_6_code 66 = .ok (.dup, 1) := by decide +kernel
theorem d5_67 : decode prog_24_method_6_code 67 = .ok (.getfield 17, 3) := by decide +kernel
theorem d5_70 : decode prog_24_method_6_code 70 = .ok (.iconst 1, 1) := by decide +kernel
theorem d5_71 : decode prog_24_method_6_code 71 = .ok (.iadd, 1) := by decide +kernel
theorem d5_72 : decode prog_24_method_6_code 72 = .ok (.putfield 17, 3) := by decide +kernel
theorem d5_75 : decode prog_24_method_6_code 75 = .ok (.return_, 1) := by decide +kernel
theorem ef_3 (m : MethodId) (x0 : Addr) (x1 : Addr) (x2 : Addr) : entryFrame m #[(.ref x0), (.ref x1), (.ref x2)] 3 = mkF m 0 #[.val (.ref x0), .val (.ref x1), .val (.ref x2)] [] := by first | (simp [entryFrame, mkF, argsToLocals, Value.category]; done) | rfl
-- ListValue.push 
def Q5_5 (Z : State) (u1 : Addr) (w1 : Addr) (u2 : Addr) (u3 : Addr) (u4 : ClassId) (w2 : Addr) (h0 : Heap) (n0 : Nat) (v : Option Value) (h : Heap) (L : List Loc) : Prop := v = none ∧ Fr n0 L ∧ Keep h0 h [u3, u1] ∧ Ary Z h u3 u4 (.array .byte) (8 : Int32) ∧ Exa Z h u3 "[[B" ∧ Fld Z h u1 "com/example/afterlog/afterlog/ListValue" "size" "I" (.int 1) ∧ Fld Z h u1 "com/example/afterlog/afterlog/ListValue" "elements" "[[B" (.ref u3) ∧ Exa Z h u1 "com/example/afterlog/afterlog/ListValue" ∧ Fld Z h u1 "com/example/afterlog/afterlog/ListValue" "head" "I" (.int 0)
set_option maxRecDepth 65536 in
set_option maxHeartbeats 40000000 in
theorem rm5_5 (l : Launch) (Z : State) (a0 : Array Value) (hw : HW Z a0) (ws : List Jvm.Cond) (u1 : Addr) (w1 : Addr) (u2 : Addr) (u3 : Addr) (u4 : ClassId) (w2 : Addr) (h0 : Heap) (n0 : Nat) (Z0 : n0 ≤ h0.size) (P1 : Fld Z h0 u1 "com/example/afterlog/afterlog/ListValue" "size" "I" (.int 0)) (P2 : Fld Z h0 u1 "com/example/afterlog/afterlog/ListValue" "elements" "[[B" (.ref u3)) (P3 : Ary Z h0 u3 u4 (.array .byte) (8 : Int32)) (Sg2 : Sta Z Z.heap "com/example/afterlog/afterlog/ListValue$End" "HEAD" "Lcom/example/afterlog/afterlog/ListValue$End;" (.ref w2)) (P5 : Old Z n0 h0) (F_w1_ordinal : Fld Z Z.heap w1 "java/lang/Enum" "ordinal" "I" (.int 1)) (F_w2_ordinal : Fld Z Z.heap w2 "java/lang/Enum" "ordinal" "I" (.int 0)) (P8 : Exa Z h0 u1 "com/example/afterlog/afterlog/ListValue") (P9 : Fld Z h0 u1 "com/example/afterlog/afterlog/ListValue" "head" "I" (.int 0)) (P10 : Exa Z h0 u3 "[[B") (P11 : OvrA Z u4 .byte "[B") (P12 : Exa Z h0 u2 "[B") (P13 : n0 ≤ u3) (P14 : u1 ≠ u3) (P15 : n0 ≤ u1) :
    MF l Z (⟨"com/example/afterlog/afterlog/ListValue", "push", "(Lcom/example/afterlog/afterlog/ListValue$End;[B)V"⟩ : MethodName) (Jvm.Cond.code (⟨"com/example/afterlog/afterlog/ListValue", "push", "(Lcom/example/afterlog/afterlog/ListValue$End;[B)V"⟩ : MethodName) prog_24_method_6_code 3 none) ws ({ frames := 1, cells := 0, slots := 0, locals := 15 } : Room) #[(.ref u1), (.ref w1), (.ref u2)] h0 (Q5_5 Z u1 w1 u2 u3 u4 w2 h0 n0) := by
  refine MetFree.of_bodySF (plainFor_of_name pn_0) hisR ?_
  intro p e s m args below meth c s₁ Bd hml0 hP hK
  obtain ⟨rfl, hZ, hh⟩ := hP
  have hx := Bd.exec
  have hby := Bd.bytes
  have hml : c.maxLocals = 3 := hml0
  have hown : s.vm.findClass "com/example/afterlog/afterlog/ListValue" = some m.cls := findClass_of_methodNamed Bd.named
  have hnm := (name_of_methodNamed Bd.named Bd.method).1
  have X0 : Stand p l e ({ frames := 1, cells := 0, slots := 0, locals := 15 } : Room) s m #[(.ref u1), (.ref w1), (.ref u2)] below meth c s₁ [] 0 0 := Stand.of_body Bd
  have e0 : s₁.heap = h0 := by rw [← hh, Bd.state]; rfl
  have N0 := Fr.nil n0
  have pre0 : ∀ t, SF p e below s₁ (mkF m 0 #[rv u1, rv w1, rv u2] []) t → SF p e below s₁ (entryFrame m #[(.ref u1), (.ref w1), (.ref u2)] 3) t := fun t k => castTop (ef_3 m u1 w1 u2) k
  obtain ⟨T1, X1, e1, st1⟩ := getF X0 hx hZ hown (host := "") (Or.inl (tw hw 19 rfl)) Via.refl e0 P1 (g := (mkF m 1 #[rv u1, rv w1, rv u2] [(.ref u1)])) rfl rfl (hb hby d5_1)
  obtain ⟨T2, X2, e2, st2⟩ := getF X1 hx hZ hown (host := "") (Or.inl (tw hw 12 rfl)) Via.refl e1 P2 (g := (mkF m 5 #[rv u1, rv w1, rv u2] [(.ref u1), (.int 0)])) rfl rfl (hb hby d5_5)
  obtain ⟨cl3, Ar3, q3, S3, N3z, H3⟩ := id P3
  obtain ⟨T4, X4, e4, st4⟩ := getS2 X2 hx hZ hown (host := "") (Or.inl (tw hw 33 rfl)) Via.refl e2 (Sg2.ext P5.2) (g := (mkF m 17 #[rv u1, rv w1, rv u2] [(.ref w1)])) rfl (hb hby d5_17)
  obtain ⟨T5, X5, e5, st5⟩ := getF X4 hx hZ hown (host := "") (Or.inl (tw hw 12 rfl)) Via.refl e4 P2 (g := (mkF m 52 #[rv u1, rv w1, rv u2] [(.ref u1)])) rfl rfl (hb hby d5_52)
  obtain ⟨T6, X6, e6, st6⟩ := getF X5 hx hZ hown (host := "") (Or.inl (tw hw 19 rfl)) Via.refl e5 P1 (g := (mkF m 57 #[rv u1, rv w1, rv u2] [(.ref u1), (.ref u1), (.ref u3)])) rfl rfl (hb hby d5_57)
  obtain ⟨cq7, q7, q7'⟩ := P8.cell
  obtain ⟨_, _, ⟨T7, L7, k7x, n7⟩, -, X7, ⟨Lc7, hQ7, l7, y7, z7⟩, st7⟩ := X6.privateBack hx (y := (⟨"com/example/afterlog/afterlog/ListValue", "slot", "(I)I"⟩ : MethodName)) hown (mvT hZ (tw hw 35 rfl)) (mvT hZ (tw hw 36 rfl)) (own_selP hZ (tw hw 2 rfl) (tw hw 37 rfl) (tw hw 36 rfl) (by decide)) (Cond.privateMethod_at (mvP hZ (tw hw 37 rfl) (args := #[]))) (mvT hZ (tw hw 38 rfl)) (by decide) (backOf (W := 1) (own_slot l Z a0 hw [] u1 u3 u4 (0 : Int32) (0 : Int32) h0 n0 Z0 P2 P9 P3 ⟨by decide, by decide⟩ ⟨by decide, by decide⟩) hZ (tw hw 38 rfl) (tw hw 3 rfl) (by decide) (by decide)) (g := (mkF m 60 #[rv u1, rv w1, rv u2] [(.int 0), (.ref u1), (.ref u3)])) rfl (by rw [hml]; rfl) (Steps.refl _) (a := u1) (by rw [e6]; exact q7) q7' (argsL := [(.int 0)]) (rest := [(.ref u3)]) (lenOf pd_2 rfl) rfl (by show 2 * 0 + _ ≤ _; exact Nat.le_of_eq rfl) (hb hby d5_60) (fun _ _ => ⟨rfl, e6, (by decide : 0 + 0 ≤ _), (by decide : 0 + 0 ≤ _)⟩)
  dsimp only [Pt.U, Pt.locs, Pt.cells, Pt.slots] at X7 l7 y7 z7 st7 hQ7
  subst l7 y7 z7
  obtain ⟨w5x, bx_i6, rfl, N7q, e7⟩ := hQ7
  have N7 := Fr.app N0 N7q
  obtain ⟨cl8, Ar8, q8, S8, N8z, H8⟩ := id P3
  have hin8 : ¬ (w5x < 0 ∨ cl8.slots.size ≤ (w5x).toNatClampNeg) := inb_of S8 ⟨(bx_i6).1, (bx_i6).2⟩
  obtain ⟨T9, h9, X9, e9, W9, st9⟩ := stR X7 hx hZ e7 Ar8 (j := w5x) hin8 rfl (Sto.ofVA Ar8 q8 P11 (Ins.self P12)) (g := (mkF m 64 #[rv u1, rv w1, rv u2] [(.ref u2), (.int w5x), (.ref u3)])) rfl rfl (hb hby d5_64)
  have K9 : Keep h0 h9 [u3, u1] := (Keep.refl h0 [u3, u1]).wr W9 (Or.inl (List.mem_of_getElem? (i := 0) rfl))
  have N9 := Fr.snoc X9 N7 P13
  have V9 : Ary Z h9 u3 u4 (.array .byte) (8 : Int32) := Ary.set Ar8 q8 S8 N8z H8 rfl W9
  have F1_10 : Fld Z h9 u1 "com/example/afterlog/afterlog/ListValue" "size" "I" (.int 0) := P1.other W9 (Or.inl P14)
  obtain ⟨T11, X11, e11, st11⟩ := getF X9 hx hZ hown (host := "") (Or.inl (tw hw 19 rfl)) Via.refl e9 F1_10 (g := (mkF m 67 #[rv u1, rv w1, rv u2] [(.ref u1), (.ref u1)])) rfl rfl (hb hby d5_67)
  have F1_12 : Exa Z h9 u1 "com/example/afterlog/afterlog/ListValue" := P8.wr W9
  have F1_13 : Fld Z h9 u1 "com/example/afterlog/afterlog/ListValue" "elements" "[[B" (.ref u3) := P2.other W9 (Or.inl P14)
  have F1_14 : Fld Z h9 u1 "com/example/afterlog/afterlog/ListValue" "head" "I" (.int 0) := P9.other W9 (Or.inl P14)
  obtain ⟨T15, h15, X15, e15, W15, st15⟩ := putF X11 hx hZ hown (host := "") (Or.inl (tw hw 19 rfl)) Via.refl e11 F1_10 F1_12 (Or.inl (tw hw 20 rfl)) (tw hw 2 rfl) (ty := .int) (by decide) rfl rfl (g := (mkF m 72 #[rv u1, rv w1, rv u2] [(.int 1), (.ref u1)])) rfl rfl (hb hby d5_72)
  have K15 : Keep h0 h15 [u3, u1] := K9.wr W15 (Or.inl (List.mem_of_getElem? (i := 1) rfl))
  have N15 := Fr.snoc X15 N9 P15
  have Fw15 : Fld Z h15 u1 "com/example/afterlog/afterlog/ListValue" "size" "I" (.int 1) := F1_10.same W15
  have F2_16 : Ary Z h15 u3 u4 (.array .byte) (8 : Int32) := V9.other W15 (Ne.symm P14)
  have F1_17 : Exa Z h9 u3 "[[B" := P10.wr W9
  have F2_18 : Exa Z h15 u3 "[[B" := F1_17.wr W15
  have F2_19 : Fld Z h15 u1 "com/example/afterlog/afterlog/ListValue" "elements" "[[B" (.ref u3) := F1_13.other W15 (Or.inr (slot_ne (Or.inl (tw hw 13 rfl)) (Or.inl (tw hw 20 rfl)) (by decide) (t := (.array (.array .byte))) (t' := .int) (by decide) (by decide)))
  have F2_20 : Exa Z h15 u1 "com/example/afterlog/afterlog/ListValue" := F1_12.wr W15
  have F2_21 : Fld Z h15 u1 "com/example/afterlog/afterlog/ListValue" "head" "I" (.int 0) := F1_14.other W15 (Or.inr (slot_ne (Or.inl (tw hw 40 rfl)) (Or.inl (tw hw 20 rfl)) (by decide) (t := .int) (t' := .int) (by decide) (by decide)))
  obtain ⟨fs, hr, hrun, hended, hW, hsame⟩ := X15.leave (v := none) (fun _ => rfl)
  refine ⟨_, _, pre0 _ ?_, hrun, hended, _, _, rfl, ?_, ⟨_, rfl⟩, hW, hsame.mono (by decide) (by decide)⟩
  · show SF p e below s₁ (mkF m 0 #[rv u1, rv w1, rv u2] []) _
    refine XS.aloadN X0.here hx rfl (hb hby d5_0) rfl rfl ?_
    show SF p e below s₁ (mkF m 1 #[rv u1, rv w1, rv u2] [(.ref u1)]) _
    refine st1 _ ?_
    show SF p e below T1 (mkF m 4 #[rv u1, rv w1, rv u2] [(.int 0)]) _
    refine XS.aloadN X1.here hx rfl (hb hby d5_4) rfl rfl ?_
    show SF p e below T1 (mkF m 5 #[rv u1, rv w1, rv u2] [(.ref u1), (.int 0)]) _
    refine st2 _ ?_
    show SF p e below T2 (mkF m 8 #[rv u1, rv w1, rv u2] [(.ref u3), (.int 0)]) _
    refine X2.arraylength hx (by rw [e2]; exact Ar3.1) (State.isArrayOf_alike hZ.alike Ar3.2.1) (g := (mkF m 8 #[rv u1, rv w1, rv u2] [(.ref u3), (.int 0)])) rfl rfl (hb hby d5_8) _ ?_
    rw [len_of S3 N3z]
    show SF p e below T2 (mkF m 9 #[rv u1, rv w1, rv u2] [(.int 8), (.int 0)]) _
    refine XS.icmpYes X2.here hx rfl (pc0 := 9) (pc' := 16) rfl (hb hby d5_9) rfl (feq (by decide : ¬ ((0 : Int32) = (8 : Int32)))).2 (by decide) (by decide) ?_
    show SF p e below T2 (mkF m 16 #[rv u1, rv w1, rv u2] []) _
    refine XS.aloadN X2.here hx rfl (hb hby d5_16) rfl rfl ?_
    show SF p e below T2 (mkF m 17 #[rv u1, rv w1, rv u2] [(.ref w1)]) _
    refine st4 _ ?_
    show SF p e below T4 (mkF m 20 #[rv u1, rv w1, rv u2] [(.ref w2), (.ref w1)]) _
    refine Jvm.RoadKit.acmp (g := (mkF m 20 #[rv u1, rv w1, rv u2] [(.ref w2), (.ref w1)])) X4 hx rfl rfl rfl (pc0 := 20) (pc' := 51) (same := false) rfl (hb hby d5_20) rfl (decide_eq_false fun q => (Fld.ne F_w1_ordinal F_w2_ordinal (by decide)) (Value.ref.inj q)) (by decide) (by decide) ?_
    show SF p e below T4 (mkF m 51 #[rv u1, rv w1, rv u2] []) _
    refine XS.aloadN X4.here hx rfl (hb hby d5_51) rfl rfl ?_
    show SF p e below T4 (mkF m 52 #[rv u1, rv w1, rv u2] [(.ref u1)]) _
    refine st5 _ ?_
    show SF p e below T5 (mkF m 55 #[rv u1, rv w1, rv u2] [(.ref u3)]) _
    refine XS.aloadN X5.here hx rfl (hb hby d5_55) rfl rfl ?_
    show SF p e below T5 (mkF m 56 #[rv u1, rv w1, rv u2] [(.ref u1), (.ref u3)]) _
    refine XS.aloadN X5.here hx rfl (hb hby d5_56) rfl rfl ?_
    show SF p e below T5 (mkF m 57 #[rv u1, rv w1, rv u2] [(.ref u1), (.ref u1), (.ref u3)]) _
    refine st6 _ ?_
    show SF p e below T6 (mkF m 60 #[rv u1, rv w1, rv u2] [(.int 0), (.ref u1), (.ref u3)]) _
    refine st7.trans ?_
    show SF p e below T7 (mkF m 63 #[rv u1, rv w1, rv u2] [(.int w5x), (.ref u3)]) _
    refine XS.aloadN X7.here hx rfl (hb hby d5_63) rfl rfl ?_
    show SF p e below T7 (mkF m 64 #[rv u1, rv w1, rv u2] [(.ref u2), (.int w5x), (.ref u3)]) _
    refine st9 _ ?_
    show SF p e below T9 (mkF m 65 #[rv u1, rv w1, rv u2] []) _
    refine XS.aloadN X9.here hx rfl (hb hby d5_65) rfl rfl ?_
    show SF p e below T9 (mkF m 66 #[rv u1, rv w1, rv u2] [(.ref u1)]) _
    refine XS.dup X9.here hx rfl (hb hby d5_66) rfl rfl ?_
    show SF p e below T9 (mkF m 67 #[rv u1, rv w1, rv u2] [(.ref u1), (.ref u1)]) _
    refine st11 _ ?_
    show SF p e below T11 (mkF m 70 #[rv u1, rv w1, rv u2] [(.int 0), (.ref u1)]) _
    refine XS.iconst X11.here hx rfl (hb hby d5_70) ?_
    show SF p e below T11 (mkF m 71 #[rv u1, rv w1, rv u2] [(.int 1), (.int 0), (.ref u1)]) _
    refine XS.iadd X11.here hx rfl (hb hby d5_71) rfl ?_
    show SF p e below T11 (mkF m 72 #[rv u1, rv w1, rv u2] [(.int ((0 : Int32) + (1 : Int32))), (.ref u1)]) _
    rw [show ((0 : Int32) + (1 : Int32)) = (1 : Int32) from by decide]
    show SF p e below T11 (mkF m 72 #[rv u1, rv w1, rv u2] [(.int 1), (.ref u1)]) _
    refine st15 _ ?_
    show SF p e below T15 (mkF m 75 #[rv u1, rv w1, rv u2] []) _
    exact X15.returnOut hx Bd.returns (hb hby d5_75) hr
  · show Q5_5 Z u1 w1 u2 u3 u4 w2 h0 n0 _ T15.heap _
    rw [e15]
    exact ⟨rfl, N15, K15, F2_16, F2_18, Fw15, F2_19, F2_20, F2_21⟩
theorem pd_3 : parseMethodDescriptor "(Lcom/example/afterlog/afterlog/ListValue$End;[B)V" = some ⟨[(.object "com/example/afterlog/afterlog/ListValue$End"), (.array .byte)], none⟩ := by decide +kernel
theorem d4_45 : decode method_3_code 45 = .ok (.iload_n 1, 1) := by decide +kernel
theorem d4_46 : decode method_3_code 46 = .ok (.iconst 1, 1) := by decide +kernel
theorem d4_47 : decode method_3_code 47 = .ok (.iadd, 1) := by decide +kernel
theorem d4_48 : decode method_3_code 48 = .ok (.ireturn, 1) := by decide +kernel
theorem pn_1 : plainName "com/example/afterlog/afterlog/ListValueIsEmptyPinLaw" = true := by first | (simp [plainName, overriddenIn]; done) | decide +kernel
theorem ef_4 (m : MethodId) (x0 : Addr) (x1 : Int32) (x2 : Int32) (x3 : Addr) : entryFrame m #[(.ref x0), (.int x1), (.int x2), (.ref x3)] 5 = mkF m 0 #[.val (.ref x0), .val (.int x1), .val (.int x2), .val (.ref x3), .unset] [] := by first | (simp [entryFrame, mkF, argsToLocals, Value.category]; done) | rfl
-- ListValueIsEmptyPinLaw.step 
def Q4_6 (Z : State) (u1 : Addr) (u2 : Int32) (u3 : Addr) (w1 : Addr) (u4 : Addr) (u5 : ClassId) (w2 : Addr) (h0 : Heap) (n0 : Nat) (v : Option Value) (h : Heap) (L : List Loc) : Prop := v = some (.int 1) ∧ Fr n0 L ∧ Keep h0 h [u4, u1] ∧ Exa Z h u4 "[[B" ∧ Ary Z h u4 u5 (.array .byte) (8 : Int32) ∧ Exa Z h u1 "com/example/afterlog/afterlog/ListValue" ∧ Fld Z h u1 "com/example/afterlog/afterlog/ListValue" "size" "I" (.int 1) ∧ Fld Z h u1 "com/example/afterlog/afterlog/ListValue" "elements" "[[B" (.ref u4) ∧ Fld Z h u1 "com/example/afterlog/afterlog/ListValue" "head" "I" (.int 0)
set_option maxRecDepth 65536 in
set_option maxHeartbeats 40000000 in
theorem rm4_6 (l : Launch) (Z : State) (a0 : Array Value) (hw : HW Z a0) (ws : List Jvm.Cond) (u1 : Addr) (u2 : Int32) (u3 : Addr) (w1 : Addr) (u4 : Addr) (u5 : ClassId) (w2 : Addr) (h0 : Heap) (n0 : Nat) (Z0 : n0 ≤ h0.size) (P1 : (u2 &&& (2 : Int32)) = (0 : Int32)) (Sg0 : Sta Z Z.heap "com/example/afterlog/afterlog/ListValue$End" "TAIL" "Lcom/example/afterlog/afterlog/ListValue$End;" (.ref w1)) (P3 : Old Z n0 h0) (P4 : (u2 &&& (1 : Int32)) = (0 : Int32)) (P5 : Exa Z h0 u1 "com/example/afterlog/afterlog/ListValue") (P6 : Fld Z h0 u1 "com/example/afterlog/afterlog/ListValue" "size" "I" (.int 0)) (P7 : Fld Z h0 u1 "com/example/afterlog/afterlog/ListValue" "elements" "[[B" (.ref u4)) (P8 : Ary Z h0 u4 u5 (.array .byte) (8 : Int32)) (Sg2 : Sta Z Z.heap "com/example/afterlog/afterlog/ListValue$End" "HEAD" "Lcom/example/afterlog/afterlog/ListValue$End;" (.ref w2)) (F_w1_ordinal : Fld Z Z.heap w1 "java/lang/Enum" "ordinal" "I" (.int 1)) (F_w2_ordinal : Fld Z Z.heap w2 "java/lang/Enum" "ordinal" "I" (.int 0)) (P12 : Fld Z h0 u1 "com/example/afterlog/afterlog/ListValue" "head" "I" (.int 0)) (P13 : Exa Z h0 u4 "[[B") (P14 : OvrA Z u5 .byte "[B") (P15 : Exa Z h0 u3 "[B") (P16 : n0 ≤ u4) (P17 : u1 ≠ u4) (P18 : n0 ≤ u1) :
    MF l Z (⟨"com/example/afterlog/afterlog/ListValueIsEmptyPinLaw", "step", "(Lcom/example/afterlog/afterlog/ListValue;II[B)I"⟩ : MethodName) (Jvm.Cond.code (⟨"com/example/afterlog/afterlog/ListValueIsEmptyPinLaw", "step", "(Lcom/example/afterlog/afterlog/ListValue;II[B)I"⟩ : MethodName) method_3_code 5 (some .int)) ws ({ frames := 2, cells := 0, slots := 0, locals := 29 } : Room) #[(.ref u1), (.int 0), (.int u2), (.ref u3)] h0 (Q4_6 Z u1 u2 u3 w1 u4 u5 w2 h0 n0) := by
  refine MetFree.of_bodySF (plainFor_of_name pn_1) hisR ?_
  intro p e s m args below meth c s₁ Bd hml0 hP hK
  obtain ⟨rfl, hZ, hh⟩ := hP
  have hx := Bd.exec
  have hby := Bd.bytes
  have hml : c.maxLocals = 5 := hml0
  have hown : s.vm.findClass "com/example/afterlog/afterlog/ListValueIsEmptyPinLaw" = some m.cls := findClass_of_methodNamed Bd.named
  have hnm := (name_of_methodNamed Bd.named Bd.method).1
  have X0 : Stand p l e ({ frames := 2, cells := 0, slots := 0, locals := 29 } : Room) s m #[(.ref u1), (.int 0), (.int u2), (.ref u3)] below meth c s₁ [] 0 0 := Stand.of_body Bd
  have e0 : s₁.heap = h0 := by rw [← hh, Bd.state]; rfl
  have N0 := Fr.nil n0
  have pre0 : ∀ t, SF p e below s₁ (mkF m 0 #[rv u1, iv 0, iv u2, rv u3, .unset] []) t → SF p e below s₁ (entryFrame m #[(.ref u1), (.int 0), (.int u2), (.ref u3)] 5) t := fun t k => castTop (ef_4 m u1 (0 : Int32) u2 u3) k
  obtain ⟨T1, X1, e1, st1⟩ := getS2 X0 hx hZ hown (host := "") (Or.inl (tw hw 25 rfl)) Via.refl e0 (Sg0.ext P3.2) (g := (mkF m 12 #[rv u1, iv 0, iv u2, rv u3, .unset] [])) rfl (hb hby d4_12)
  obtain ⟨cq2, kq2, q2a, q2b, q2c⟩ := isOf hZ e1 P5
  obtain ⟨_, _, ⟨T2, L2, k2x, n2⟩, -, X2, ⟨Lc2, hQ2, l2, y2, z2⟩, st2⟩ := X1.virtualBack hx (y := (⟨"com/example/afterlog/afterlog/ListValue", "push", "(Lcom/example/afterlog/afterlog/ListValue$End;[B)V"⟩ : MethodName)) (z := (⟨"com/example/afterlog/afterlog/ListValue", "push", "(Lcom/example/afterlog/afterlog/ListValue$End;[B)V"⟩ : MethodName)) hown (mvT hZ (tw hw 28 rfl)) (mvT hZ (tw hw 29 rfl)) (notFace_of_selects (args := #[]) (mvT hZ (tw hw 31 rfl))) (mvT hZ (tw hw 31 rfl)) (mvT hZ (tw hw 30 rfl)) (by decide) (backOf (W := 0) (rm5_5 l Z a0 hw [] u1 w1 u3 u4 u5 w2 h0 n0 Z0 P6 P7 P8 Sg2 P3 F_w1_ordinal F_w2_ordinal P5 P12 P13 P14 P15 P16 P17 P18) hZ (tw hw 32 rfl) (tw hw 3 rfl) (by decide) (by decide)) q2a q2c (g := (mkF m 42 #[rv u1, iv 0, iv u2, rv u3, rv w1] [(.ref u3), (.ref w1), (.ref u1)])) rfl (by rw [hml]; rfl) (Steps.refl _) (argsL := [(.ref w1), (.ref u3)]) (rest := []) (lenOf pd_3 rfl) rfl (by show 2 * 0 + _ ≤ _; exact Nat.le_of_eq rfl) (hb hby d4_42) (fun _ _ => ⟨rfl, e1, (by decide : 0 + 0 ≤ _), (by decide : 0 + 0 ≤ _)⟩)
  dsimp only [Pt.U, Pt.locs, Pt.cells, Pt.slots] at X2 l2 y2 z2 st2 hQ2
  subst l2 y2 z2
  obtain ⟨rfl, N2q, K2c, Fq2_0, Fq2_1, Fq2_2, Fq2_3, Fq2_4, Fq2_5⟩ := hQ2
  have K2 : Keep h0 T2.heap [u4, u1] := (Keep.refl h0 [u4, u1]).trans K2c (allS (Or.inl (List.mem_of_getElem? (i := 0) rfl)) (allS (Or.inl (List.mem_of_getElem? (i := 1) rfl)) all0))
  have N2 := Fr.app N0 N2q
  obtain ⟨fs, hr, hrun, hended, hW, hsame⟩ := X2.leave (v := some (.int 1)) (fun h => by rw [Bd.returns] at h; cases h)
  refine ⟨_, _, pre0 _ ?_, hrun, hended, _, _, rfl, ?_, ⟨_, rfl⟩, hW, hsame.mono (by decide) (by decide)⟩
  · show SF p e below s₁ (mkF m 0 #[rv u1, iv 0, iv u2, rv u3, .unset] []) _
    refine XS.iloadN X0.here hx rfl (hb hby d4_0) rfl ?_
    show SF p e below s₁ (mkF m 1 #[rv u1, iv 0, iv u2, rv u3, .unset] [(.int u2)]) _
    refine XS.iconst X0.here hx rfl (hb hby d4_1) ?_
    show SF p e below s₁ (mkF m 2 #[rv u1, iv 0, iv u2, rv u3, .unset] [(.int 2), (.int u2)]) _
    refine XS.iand X0.here hx rfl (hb hby d4_2) rfl ?_
    show SF p e below s₁ (mkF m 3 #[rv u1, iv 0, iv u2, rv u3, .unset] [(.int (u2 &&& (2 : Int32)))]) _
    refine XS.ifYes X0.here hx rfl (pc0 := 3) (pc' := 12) rfl (hb hby d4_3) rfl ((if0 _ _).trans (teq P1).1) (by decide) (by decide) ?_
    show SF p e below s₁ (mkF m 12 #[rv u1, iv 0, iv u2, rv u3, .unset] []) _
    refine st1 _ ?_
    show SF p e below T1 (mkF m 15 #[rv u1, iv 0, iv u2, rv u3, .unset] [(.ref w1)]) _
    refine XS.astore X1.here hx rfl (hb hby d4_15) rfl rfl (l' := #[rv u1, iv 0, iv u2, rv u3, rv w1]) rfl ?_
    show SF p e below T1 (mkF m 17 #[rv u1, iv 0, iv u2, rv u3, rv w1] []) _
    refine XS.iloadN X1.here hx rfl (hb hby d4_17) rfl ?_
    show SF p e below T1 (mkF m 18 #[rv u1, iv 0, iv u2, rv u3, rv w1] [(.int u2)]) _
    refine XS.iconst X1.here hx rfl (hb hby d4_18) ?_
    show SF p e below T1 (mkF m 19 #[rv u1, iv 0, iv u2, rv u3, rv w1] [(.int 1), (.int u2)]) _
    refine XS.iand X1.here hx rfl (hb hby d4_19) rfl ?_
    show SF p e below T1 (mkF m 20 #[rv u1, iv 0, iv u2, rv u3, rv w1] [(.int (u2 &&& (1 : Int32)))]) _
    refine XS.ifYes X1.here hx rfl (pc0 := 20) (pc' := 38) rfl (hb hby d4_20) rfl ((if0 _ _).trans (teq P4).1) (by decide) (by decide) ?_
    show SF p e below T1 (mkF m 38 #[rv u1, iv 0, iv u2, rv u3, rv w1] []) _
    refine XS.aloadN X1.here hx rfl (hb hby d4_38) rfl rfl ?_
    show SF p e below T1 (mkF m 39 #[rv u1, iv 0, iv u2, rv u3, rv w1] [(.ref u1)]) _
    refine XS.aload X1.here hx rfl (hb hby d4_39) rfl rfl ?_
    show SF p e below T1 (mkF m 41 #[rv u1, iv 0, iv u2, rv u3, rv w1] [(.ref w1), (.ref u1)]) _
    refine XS.aloadN X1.here hx rfl (hb hby d4_41) rfl rfl ?_
    show SF p e below T1 (mkF m 42 #[rv u1, iv 0, iv u2, rv u3, rv w1] [(.ref u3), (.ref w1), (.ref u1)]) _
    refine st2.trans ?_
    show SF p e below T2 (mkF m 45 #[rv u1, iv 0, iv u2, rv u3, rv w1] []) _
    refine XS.iloadN X2.here hx rfl (hb hby d4_45) rfl ?_
    show SF p e below T2 (mkF m 46 #[rv u1, iv 0, iv u2, rv u3, rv w1] [(.int 0)]) _
    refine XS.iconst X2.here hx rfl (hb hby d4_46) ?_
    show SF p e below T2 (mkF m 47 #[rv u1, iv 0, iv u2, rv u3, rv w1] [(.int 1), (.int 0)]) _
    refine XS.iadd X2.here hx rfl (hb hby d4_47) rfl ?_
    show SF p e below T2 (mkF m 48 #[rv u1, iv 0, iv u2, rv u3, rv w1] [(.int ((0 : Int32) + (1 : Int32)))]) _
    rw [show ((0 : Int32) + (1 : Int32)) = (1 : Int32) from by decide]
    show SF p e below T2 (mkF m 48 #[rv u1, iv 0, iv u2, rv u3, rv w1] [(.int 1)]) _
    exact retI X2 hx Bd.returns (hb hby d4_48) hr
  · show Q4_6 Z u1 u2 u3 w1 u4 u5 w2 h0 n0 _ T2.heap _
    exact ⟨rfl, N2, K2, Fq2_1, Fq2_0, Fq2_4, Fq2_2, Fq2_3, Fq2_5⟩
theorem pd_4 : parseMethodDescriptor "(Lcom/example/afterlog/afterlog/ListValue;II[B)I" = some ⟨[(.object "com/example/afterlog/afterlog/ListValue"), .int, .int, (.array .byte)], some .int⟩ := by decide +kernel
theorem d3_11 : decode prog_24_method_3_code 11 = .ok (.iconst 0, 1) := by decide +kernel
-- ListValue.isEmpty 
def Q3_7 (Z : State) (u1 : Addr) (h0 : Heap) (n0 : Nat) (v : Option Value) (h : Heap) (L : List Loc) : Prop := v = some (.int 0) ∧ Fr n0 L ∧ h = h0
set_option maxRecDepth 65536 in
set_option maxHeartbeats 40000000 in
theorem rm3_7 (l : Launch) (Z : State) (a0 : Array Value) (hw : HW Z a0) (ws : List Jvm.Cond) (u1 : Addr) (h0 : Heap) (n0 : Nat) (Z0 : n0 ≤ h0.size) (P1 : Fld Z h0 u1 "com/example/afterlog/afterlog/ListValue" "size" "I" (.int 1)) :
    MF l Z (⟨"com/example/afterlog/afterlog/ListValue", "isEmpty", "()Z"⟩ : MethodName) (Jvm.Cond.code (⟨"com/example/afterlog/afterlog/ListValue", "isEmpty", "()Z"⟩ : MethodName) prog_24_method_3_code 1 (some .boolean)) ws ({ frames := 0, cells := 0, slots := 0, locals := 0 } : Room) #[(.ref u1)] h0 (Q3_7 Z u1 h0 n0) := by
  refine MetFree.of_bodySF (plainFor_of_name pn_0) hisR ?_
  intro p e s m args below meth c s₁ Bd hml0 hP hK
  obtain ⟨rfl, hZ, hh⟩ := hP
  have hx := Bd.exec
  have hby := Bd.bytes
  have hml : c.maxLocals = 1 := hml0
  have hown : s.vm.findClass "com/example/afterlog/afterlog/ListValue" = some m.cls := findClass_of_methodNamed Bd.named
  have hnm := (name_of_methodNamed Bd.named Bd.method).1
  have X0 : Stand p l e ({ frames := 0, cells := 0, slots := 0, locals := 0 } : Room) s m #[(.ref u1)] below meth c s₁ [] 0 0 := Stand.of_body Bd
  have e0 : s₁.heap = h0 := by rw [← hh, Bd.state]; rfl
  have N0 := Fr.nil n0
  have pre0 : ∀ t, SF p e below s₁ (mkF m 0 #[rv u1] []) t → SF p e below s₁ (entryFrame m #[(.ref u1)] 1) t := fun t k => castTop (ef_1 m u1) k
  obtain ⟨T1, X1, e1, st1⟩ := getF X0 hx hZ hown (host := "") (Or.inl (tw hw 19 rfl)) Via.refl e0 P1 (g := (mkF m 1 #[rv u1] [(.ref u1)])) rfl rfl (hb hby d3_1)
  obtain ⟨fs, hr, hrun, hended, hW, hsame⟩ := X1.leave (v := some (.int 0)) (fun h => by rw [Bd.returns] at h; cases h)
  refine ⟨_, _, pre0 _ ?_, hrun, hended, _, _, rfl, ?_, ⟨_, rfl⟩, hW, hsame.mono (by decide) (by decide)⟩
  · show SF p e below s₁ (mkF m 0 #[rv u1] []) _
    refine XS.aloadN X0.here hx rfl (hb hby d3_0) rfl rfl ?_
    show SF p e below s₁ (mkF m 1 #[rv u1] [(.ref u1)]) _
    refine st1 _ ?_
    show SF p e below T1 (mkF m 4 #[rv u1] [(.int 1)]) _
    refine XS.ifYes X1.here hx rfl (pc0 := 4) (pc' := 11) rfl (hb hby d3_4) rfl ((if0 _ _).trans (feq (by decide : ¬ ((1 : Int32) = (0 : Int32)))).2) (by decide) (by decide) ?_
    show SF p e below T1 (mkF m 11 #[rv u1] []) _
    refine XS.iconst X1.here hx rfl (hb hby d3_11) ?_
    show SF p e below T1 (mkF m 12 #[rv u1] [(.int 0)]) _
    exact retN X1 hx (t := .boolean) Bd.returns (by simp) (hb hby d3_12) hr
  · show Q3_7 Z u1 h0 n0 _ T1.heap _
    rw [e1]
    exact ⟨rfl, N0, rfl⟩
-- ListValue.push 
def Q5_8 (Z : State) (u1 : Addr) (w1 : Addr) (u2 : Addr) (u3 : Addr) (u4 : ClassId) (w2 : Addr) (u5 : Int32) (h0 : Heap) (n0 : Nat) (v : Option Value) (h : Heap) (L : List Loc) : Prop := v = none ∧ Fr n0 L ∧ Keep h0 h [u3, u1] ∧ Ary Z h u3 u4 (.array .byte) (8 : Int32) ∧ Exa Z h u3 "[[B" ∧ Fld Z h u1 "com/example/afterlog/afterlog/ListValue" "size" "I" (.int 2) ∧ Fld Z h u1 "com/example/afterlog/afterlog/ListValue" "elements" "[[B" (.ref u3) ∧ Exa Z h u1 "com/example/afterlog/afterlog/ListValue" ∧ Fld Z h u1 "com/example/afterlog/afterlog/ListValue" "head" "I" (.int u5)
set_option maxRecDepth 65536 in
set_option maxHeartbeats 40000000 in
theorem rm5_8 (l : Launch) (Z : State) (a0 : Array Value) (hw : HW Z a0) (ws : List Jvm.Cond) (u1 : Addr) (w1 : Addr) (u2 : Addr) (u3 : Addr) (u4 : ClassId) (w2 : Addr) (u5 : Int32) (h0 : Heap) (n0 : Nat) (Z0 : n0 ≤ h0.size) (P1 : Fld Z h0 u1 "com/example/afterlog/afterlog/ListValue" "size" "I" (.int 1)) (P2 : Fld Z h0 u1 "com/example/afterlog/afterlog/ListValue" "elements" "[[B" (.ref u3)) (P3 : Ary Z h0 u3 u4 (.array .byte) (8 : Int32)) (Sg2 : Sta Z Z.heap "com/example/afterlog/afterlog/ListValue$End" "HEAD" "Lcom/example/afterlog/afterlog/ListValue$End;" (.ref w2)) (P5 : Old Z n0 h0) (F_w1_ordinal : Fld Z Z.heap w1 "java/lang/Enum" "ordinal" "I" (.int 1)) (F_w2_ordinal : Fld Z Z.heap w2 "java/lang/Enum" "ordinal" "I" (.int 0)) (P8 : Exa Z h0 u1 "com/example/afterlog/afterlog/ListValue") (P9 : Fld Z h0 u1 "com/example/afterlog/afterlog/ListValue" "head" "I" (.int u5)) (P10 : ¬ u5 < (0 : Int32) ∧ u5 < (8 : Int32)) (P11 : Exa Z h0 u3 "[[B") (P12 : OvrA Z u4 .byte "[B") (P13 : Exa Z h0 u2 "[B") (P14 : n0 ≤ u3) (P15 : u1 ≠ u3) (P16 : n0 ≤ u1) :
    MF l Z (⟨"com/example/afterlog/afterlog/ListValue", "push", "(Lcom/example/afterlog/afterlog/ListValue$End;[B)V"⟩ : MethodName) (Jvm.Cond.code (⟨"com/example/afterlog/afterlog/ListValue", "push", "(Lcom/example/afterlog/afterlog/ListValue$End;[B)V"⟩ : MethodName) prog_24_method_6_code 3 none) ws ({ frames := 1, cells := 0, slots := 0, locals := 15 } : Room) #[(.ref u1), (.ref w1), (.ref u2)] h0 (Q5_8 Z u1 w1 u2 u3 u4 w2 u5 h0 n0) := by
  refine MetFree.of_bodySF (plainFor_of_name pn_0) hisR ?_
  intro p e s m args below meth c s₁ Bd hml0 hP hK
  obtain ⟨rfl, hZ, hh⟩ := hP
  have hx := Bd.exec
  have hby := Bd.bytes
  have hml : c.maxLocals = 3 := hml0
  have hown : s.vm.findClass "com/example/afterlog/afterlog/ListValue" = some m.cls := findClass_of_methodNamed Bd.named
  have hnm := (name_of_methodNamed Bd.named Bd.method).1
  have X0 : Stand p l e ({ frames := 1, cells := 0, slots := 0, locals := 15 } : Room) s m #[(.ref u1), (.ref w1), (.ref u2)] below meth c s₁ [] 0 0 := Stand.of_body Bd
  have e0 : s₁.heap = h0 := by rw [← hh, Bd.state]; rfl
  have N0 := Fr.nil n0
  have pre0 : ∀ t, SF p e below s₁ (mkF m 0 #[rv u1, rv w1, rv u2] []) t → SF p e below s₁ (entryFrame m #[(.ref u1), (.ref w1), (.ref u2)] 3) t := fun t k => castTop (ef_3 m u1 w1 u2) k
  obtain ⟨T1, X1, e1, st1⟩ := getF X0 hx hZ hown (host := "") (Or.inl (tw hw 19 rfl)) Via.refl e0 P1 (g := (mkF m 1 #[rv u1, rv w1, rv u2] [(.ref u1)])) rfl rfl (hb hby d5_1)
  obtain ⟨T2, X2, e2, st2⟩ := getF X1 hx hZ hown (host := "") (Or.inl (tw hw 12 rfl)) Via.refl e1 P2 (g := (mkF m 5 #[rv u1, rv w1, rv u2] [(.ref u1), (.int 1)])) rfl rfl (hb hby d5_5)
  obtain ⟨cl3, Ar3, q3, S3, N3z, H3⟩ := id P3
  obtain ⟨T4, X4, e4, st4⟩ := getS2 X2 hx hZ hown (host := "") (Or.inl (tw hw 33 rfl)) Via.refl e2 (Sg2.ext P5.2) (g := (mkF m 17 #[rv u1, rv w1, rv u2] [(.ref w1)])) rfl (hb hby d5_17)
  obtain ⟨T5, X5, e5, st5⟩ := getF X4 hx hZ hown (host := "") (Or.inl (tw hw 12 rfl)) Via.refl e4 P2 (g := (mkF m 52 #[rv u1, rv w1, rv u2] [(.ref u1)])) rfl rfl (hb hby d5_52)
  obtain ⟨T6, X6, e6, st6⟩ := getF X5 hx hZ hown (host := "") (Or.inl (tw hw 19 rfl)) Via.refl e5 P1 (g := (mkF m 57 #[rv u1, rv w1, rv u2] [(.ref u1), (.ref u1), (.ref u3)])) rfl rfl (hb hby d5_57)
  obtain ⟨cq7, q7, q7'⟩ := P8.cell
  obtain ⟨_, _, ⟨T7, L7, k7x, n7⟩, -, X7, ⟨Lc7, hQ7, l7, y7, z7⟩, st7⟩ := X6.privateBack hx (y := (⟨"com/example/afterlog/afterlog/ListValue", "slot", "(I)I"⟩ : MethodName)) hown (mvT hZ (tw hw 35 rfl)) (mvT hZ (tw hw 36 rfl)) (own_selP hZ (tw hw 2 rfl) (tw hw 37 rfl) (tw hw 36 rfl) (by decide)) (Cond.privateMethod_at (mvP hZ (tw hw 37 rfl) (args := #[]))) (mvT hZ (tw hw 38 rfl)) (by decide) (backOf (W := 1) (own_slot l Z a0 hw [] u1 u3 u4 u5 (1 : Int32) h0 n0 Z0 P2 P9 P3 P10 ⟨by decide, by decide⟩) hZ (tw hw 38 rfl) (tw hw 3 rfl) (by decide) (by decide)) (g := (mkF m 60 #[rv u1, rv w1, rv u2] [(.int 1), (.ref u1), (.ref u3)])) rfl (by rw [hml]; rfl) (Steps.refl _) (a := u1) (by rw [e6]; exact q7) q7' (argsL := [(.int 1)]) (rest := [(.ref u3)]) (lenOf pd_2 rfl) rfl (by show 2 * 0 + _ ≤ _; exact Nat.le_of_eq rfl) (hb hby d5_60) (fun _ _ => ⟨rfl, e6, (by decide : 0 + 0 ≤ _), (by decide : 0 + 0 ≤ _)⟩)
  dsimp only [Pt.U, Pt.locs, Pt.cells, Pt.slots] at X7 l7 y7 z7 st7 hQ7
  subst l7 y7 z7
  obtain ⟨w6x, bx_i7, rfl, N7q, e7⟩ := hQ7
  have N7 := Fr.app N0 N7q
  obtain ⟨cl8, Ar8, q8, S8, N8z, H8⟩ := id P3
  have hin8 : ¬ (w6x < 0 ∨ cl8.slots.size ≤ (w6x).toNatClampNeg) := inb_of S8 ⟨(bx_i7).1, (bx_i7).2⟩
  obtain ⟨T9, h9, X9, e9, W9, st9⟩ := stR X7 hx hZ e7 Ar8 (j := w6x) hin8 rfl (Sto.ofVA Ar8 q8 P12 (Ins.self P13)) (g := (mkF m 64 #[rv u1, rv w1, rv u2] [(.ref u2), (.int w6x), (.ref u3)])) rfl rfl (hb hby d5_64)
  have K9 : Keep h0 h9 [u3, u1] := (Keep.refl h0 [u3, u1]).wr W9 (Or.inl (List.mem_of_getElem? (i := 0) rfl))
  have N9 := Fr.snoc X9 N7 P14
  have V9 : Ary Z h9 u3 u4 (.array .byte) (8 : Int32) := Ary.set Ar8 q8 S8 N8z H8 rfl W9
  have F1_10 : Fld Z h9 u1 "com/example/afterlog/afterlog/ListValue" "size" "I" (.int 1) := P1.other W9 (Or.inl P15)
  obtain ⟨T11, X11, e11, st11⟩ := getF X9 hx hZ hown (host := "") (Or.inl (tw hw 19 rfl)) Via.refl e9 F1_10 (g := (mkF m 67 #[rv u1, rv w1, rv u2] [(.ref u1), (.ref u1)])) rfl rfl (hb hby d5_67)
  have F1_12 : Exa Z h9 u1 "com/example/afterlog/afterlog/ListValue" := P8.wr W9
  have F1_13 : Fld Z h9 u1 "com/example/afterlog/afterlog/ListValue" "elements" "[[B" (.ref u3) := P2.other W9 (Or.inl P15)
  have F1_14 : Fld Z h9 u1 "com/example/afterlog/afterlog/ListValue" "head" "I" (.int u5) := P9.other W9 (Or.inl P15)
  obtain ⟨T15, h15, X15, e15, W15, st15⟩ := putF X11 hx hZ hown (host := "") (Or.inl (tw hw 19 rfl)) Via.refl e11 F1_10 F1_12 (Or.inl (tw hw 20 rfl)) (tw hw 2 rfl) (ty := .int) (by decide) rfl rfl (g := (mkF m 72 #[rv u1, rv w1, rv u2] [(.int 2), (.ref u1)])) rfl rfl (hb hby d5_72)
  have K15 : Keep h0 h15 [u3, u1] := K9.wr W15 (Or.inl (List.mem_of_getElem? (i := 1) rfl))
  have N15 := Fr.snoc X15 N9 P16
  have Fw15 : Fld Z h15 u1 "com/example/afterlog/afterlog/ListValue" "size" "I" (.int 2) := F1_10.same W15
  have F2_16 : Ary Z h15 u3 u4 (.array .byte) (8 : Int32) := V9.other W15 (Ne.symm P15)
  have F1_17 : Exa Z h9 u3 "[[B" := P11.wr W9
  have F2_18 : Exa Z h15 u3 "[[B" := F1_17.wr W15
  have F2_19 : Fld Z h15 u1 "com/example/afterlog/afterlog/ListValue" "elements" "[[B" (.ref u3) := F1_13.other W15 (Or.inr (slot_ne (Or.inl (tw hw 13 rfl)) (Or.inl (tw hw 20 rfl)) (by decide) (t := (.array (.array .byte))) (t' := .int) (by decide) (by decide)))
  have F2_20 : Exa Z h15 u1 "com/example/afterlog/afterlog/ListValue" := F1_12.wr W15
  have F2_21 : Fld Z h15 u1 "com/example/afterlog/afterlog/ListValue" "head" "I" (.int u5) := F1_14.other W15 (Or.inr (slot_ne (Or.inl (tw hw 40 rfl)) (Or.inl (tw hw 20 rfl)) (by decide) (t := .int) (t' := .int) (by decide) (by decide)))
  obtain ⟨fs, hr, hrun, hended, hW, hsame⟩ := X15.leave (v := none) (fun _ => rfl)
  refine ⟨_, _, pre0 _ ?_, hrun, hended, _, _, rfl, ?_, ⟨_, rfl⟩, hW, hsame.mono (by decide) (by decide)⟩
  · show SF p e below s₁ (mkF m 0 #[rv u1, rv w1, rv u2] []) _
    refine XS.aloadN X0.here hx rfl (hb hby d5_0) rfl rfl ?_
    show SF p e below s₁ (mkF m 1 #[rv u1, rv w1, rv u2] [(.ref u1)]) _
    refine st1 _ ?_
    show SF p e below T1 (mkF m 4 #[rv u1, rv w1, rv u2] [(.int 1)]) _
    refine XS.aloadN X1.here hx rfl (hb hby d5_4) rfl rfl ?_
    show SF p e below T1 (mkF m 5 #[rv u1, rv w1, rv u2] [(.ref u1), (.int 1)]) _
    refine st2 _ ?_
    show SF p e below T2 (mkF m 8 #[rv u1, rv w1, rv u2] [(.ref u3), (.int 1)]) _
    refine X2.arraylength hx (by rw [e2]; exact Ar3.1) (State.isArrayOf_alike hZ.alike Ar3.2.1) (g := (mkF m 8 #[rv u1, rv w1, rv u2] [(.ref u3), (.int 1)])) rfl rfl (hb hby d5_8) _ ?_
    rw [len_of S3 N3z]
    show SF p e below T2 (mkF m 9 #[rv u1, rv w1, rv u2] [(.int 8), (.int 1)]) _
    refine XS.icmpYes X2.here hx rfl (pc0 := 9) (pc' := 16) rfl (hb hby d5_9) rfl (feq (by decide : ¬ ((1 : Int32) = (8 : Int32)))).2 (by decide) (by decide) ?_
    show SF p e below T2 (mkF m 16 #[rv u1, rv w1, rv u2] []) _
    refine XS.aloadN X2.here hx rfl (hb hby d5_16) rfl rfl ?_
    show SF p e below T2 (mkF m 17 #[rv u1, rv w1, rv u2] [(.ref w1)]) _
    refine st4 _ ?_
    show SF p e below T4 (mkF m 20 #[rv u1, rv w1, rv u2] [(.ref w2), (.ref w1)]) _
    refine Jvm.RoadKit.acmp (g := (mkF m 20 #[rv u1, rv w1, rv u2] [(.ref w2), (.ref w1)])) X4 hx rfl rfl rfl (pc0 := 20) (pc' := 51) (same := false) rfl (hb hby d5_20) rfl (decide_eq_false fun q => (Fld.ne F_w1_ordinal F_w2_ordinal (by decide)) (Value.ref.inj q)) (by decide) (by decide) ?_
    show SF p e below T4 (mkF m 51 #[rv u1, rv w1, rv u2] []) _
    refine XS.aloadN X4.here hx rfl (hb hby d5_51) rfl rfl ?_
    show SF p e below T4 (mkF m 52 #[rv u1, rv w1, rv u2] [(.ref u1)]) _
    refine st5 _ ?_
    show SF p e below T5 (mkF m 55 #[rv u1, rv w1, rv u2] [(.ref u3)]) _
    refine XS.aloadN X5.here hx rfl (hb hby d5_55) rfl rfl ?_
    show SF p e below T5 (mkF m 56 #[rv u1, rv w1, rv u2] [(.ref u1), (.ref u3)]) _
    refine XS.aloadN X5.here hx rfl (hb hby d5_56) rfl rfl ?_
    show SF p e below T5 (mkF m 57 #[rv u1, rv w1, rv u2] [(.ref u1), (.ref u1), (.ref u3)]) _
    refine st6 _ ?_
    show SF p e below T6 (mkF m 60 #[rv u1, rv w1, rv u2] [(.int 1), (.ref u1), (.ref u3)]) _
    refine st7.trans ?_
    show SF p e below T7 (mkF m 63 #[rv u1, rv w1, rv u2] [(.int w6x), (.ref u3)]) _
    refine XS.aloadN X7.here hx rfl (hb hby d5_63) rfl rfl ?_
    show SF p e below T7 (mkF m 64 #[rv u1, rv w1, rv u2] [(.ref u2), (.int w6x), (.ref u3)]) _
    refine st9 _ ?_
    show SF p e below T9 (mkF m 65 #[rv u1, rv w1, rv u2] []) _
    refine XS.aloadN X9.here hx rfl (hb hby d5_65) rfl rfl ?_
    show SF p e below T9 (mkF m 66 #[rv u1, rv w1, rv u2] [(.ref u1)]) _
    refine XS.dup X9.here hx rfl (hb hby d5_66) rfl rfl ?_
    show SF p e below T9 (mkF m 67 #[rv u1, rv w1, rv u2] [(.ref u1), (.ref u1)]) _
    refine st11 _ ?_
    show SF p e below T11 (mkF m 70 #[rv u1, rv w1, rv u2] [(.int 1), (.ref u1)]) _
    refine XS.iconst X11.here hx rfl (hb hby d5_70) ?_
    show SF p e below T11 (mkF m 71 #[rv u1, rv w1, rv u2] [(.int 1), (.int 1), (.ref u1)]) _
    refine XS.iadd X11.here hx rfl (hb hby d5_71) rfl ?_
    show SF p e below T11 (mkF m 72 #[rv u1, rv w1, rv u2] [(.int ((1 : Int32) + (1 : Int32))), (.ref u1)]) _
    rw [show ((1 : Int32) + (1 : Int32)) = (2 : Int32) from by decide]
    show SF p e below T11 (mkF m 72 #[rv u1, rv w1, rv u2] [(.int 2), (.ref u1)]) _
    refine st15 _ ?_
    show SF p e below T15 (mkF m 75 #[rv u1, rv w1, rv u2] []) _
    exact X15.returnOut hx Bd.returns (hb hby d5_75) hr
  · show Q5_8 Z u1 w1 u2 u3 u4 w2 u5 h0 n0 _ T15.heap _
    rw [e15]
    exact ⟨rfl, N15, K15, F2_16, F2_18, Fw15, F2_19, F2_20, F2_21⟩
-- ListValueIsEmptyPinLaw.step 
def Q4_9 (Z : State) (u1 : Addr) (u2 : Int32) (u3 : Addr) (w1 : Addr) (u4 : Addr) (u5 : ClassId) (w2 : Addr) (u6 : Int32) (h0 : Heap) (n0 : Nat) (v : Option Value) (h : Heap) (L : List Loc) : Prop := v = some (.int 2) ∧ Fr n0 L ∧ Keep h0 h [u4, u1] ∧ Exa Z h u4 "[[B" ∧ Ary Z h u4 u5 (.array .byte) (8 : Int32) ∧ Exa Z h u1 "com/example/afterlog/afterlog/ListValue" ∧ Fld Z h u1 "com/example/afterlog/afterlog/ListValue" "size" "I" (.int 2) ∧ Fld Z h u1 "com/example/afterlog/afterlog/ListValue" "elements" "[[B" (.ref u4) ∧ Fld Z h u1 "com/example/afterlog/afterlog/ListValue" "head" "I" (.int u6)
set_option maxRecDepth 65536 in
set_option maxHeartbeats 40000000 in
theorem rm4_9 (l : Launch) (Z : State) (a0 : Array Value) (hw : HW Z a0) (ws : List Jvm.Cond) (u1 : Addr) (u2 : Int32) (u3 : Addr) (w1 : Addr) (u4 : Addr) (u5 : ClassId) (w2 : Addr) (u6 : Int32) (h0 : Heap) (n0 : Nat) (Z0 : n0 ≤ h0.size) (P1 : (u2 &&& (2 : Int32)) = (0 : Int32)) (Sg0 : Sta Z Z.heap "com/example/afterlog/afterlog/ListValue$End" "TAIL" "Lcom/example/afterlog/afterlog/ListValue$End;" (.ref w1)) (P3 : Old Z n0 h0) (P4 : (u2 &&& (1 : Int32)) = (0 : Int32)) (P5 : Exa Z h0 u1 "com/example/afterlog/afterlog/ListValue") (P6 : Fld Z h0 u1 "com/example/afterlog/afterlog/ListValue" "size" "I" (.int 1)) (P7 : Fld Z h0 u1 "com/example/afterlog/afterlog/ListValue" "elements" "[[B" (.ref u4)) (P8 : Ary Z h0 u4 u5 (.array .byte) (8 : Int32)) (Sg2 : Sta Z Z.heap "com/example/afterlog/afterlog/ListValue$End" "HEAD" "Lcom/example/afterlog/afterlog/ListValue$End;" (.ref w2)) (F_w1_ordinal : Fld Z Z.heap w1 "java/lang/Enum" "ordinal" "I" (.int 1)) (F_w2_ordinal : Fld Z Z.heap w2 "java/lang/Enum" "ordinal" "I" (.int 0)) (P12 : Fld Z h0 u1 "com/example/afterlog/afterlog/ListValue" "head" "I" (.int u6)) (P13 : ¬ u6 < (0 : Int32) ∧ u6 < (8 : Int32)) (P14 : Exa Z h0 u4 "[[B") (P15 : OvrA Z u5 .byte "[B") (P16 : Exa Z h0 u3 "[B") (P17 : n0 ≤ u4) (P18 : u1 ≠ u4) (P19 : n0 ≤ u1) :
    MF l Z (⟨"com/example/afterlog/afterlog/ListValueIsEmptyPinLaw", "step", "(Lcom/example/afterlog/afterlog/ListValue;II[B)I"⟩ : MethodName) (Jvm.Cond.code (⟨"com/example/afterlog/afterlog/ListValueIsEmptyPinLaw", "step", "(Lcom/example/afterlog/afterlog/ListValue;II[B)I"⟩ : MethodName) method_3_code 5 (some .int)) ws ({ frames := 2, cells := 0, slots := 0, locals := 29 } : Room) #[(.ref u1), (.int 1), (.int u2), (.ref u3)] h0 (Q4_9 Z u1 u2 u3 w1 u4 u5 w2 u6 h0 n0) := by
  refine MetFree.of_bodySF (plainFor_of_name pn_1) hisR ?_
  intro p e s m args below meth c s₁ Bd hml0 hP hK
  obtain ⟨rfl, hZ, hh⟩ := hP
  have hx := Bd.exec
  have hby := Bd.bytes
  have hml : c.maxLocals = 5 := hml0
  have hown : s.vm.findClass "com/example/afterlog/afterlog/ListValueIsEmptyPinLaw" = some m.cls := findClass_of_methodNamed Bd.named
  have hnm := (name_of_methodNamed Bd.named Bd.method).1
  have X0 : Stand p l e ({ frames := 2, cells := 0, slots := 0, locals := 29 } : Room) s m #[(.ref u1), (.int 1), (.int u2), (.ref u3)] below meth c s₁ [] 0 0 := Stand.of_body Bd
  have e0 : s₁.heap = h0 := by rw [← hh, Bd.state]; rfl
  have N0 := Fr.nil n0
  have pre0 : ∀ t, SF p e below s₁ (mkF m 0 #[rv u1, iv 1, iv u2, rv u3, .unset] []) t → SF p e below s₁ (entryFrame m #[(.ref u1), (.int 1), (.int u2), (.ref u3)] 5) t := fun t k => castTop (ef_4 m u1 (1 : Int32) u2 u3) k
  obtain ⟨T1, X1, e1, st1⟩ := getS2 X0 hx hZ hown (host := "") (Or.inl (tw hw 25 rfl)) Via.refl e0 (Sg0.ext P3.2) (g := (mkF m 12 #[rv u1, iv 1, iv u2, rv u3, .unset] [])) rfl (hb hby d4_12)
  obtain ⟨cq2, kq2, q2a, q2b, q2c⟩ := isOf hZ e1 P5
  obtain ⟨_, _, ⟨T2, L2, k2x, n2⟩, -, X2, ⟨Lc2, hQ2, l2, y2, z2⟩, st2⟩ := X1.virtualBack hx (y := (⟨"com/example/afterlog/afterlog/ListValue", "push", "(Lcom/example/afterlog/afterlog/ListValue$End;[B)V"⟩ : MethodName)) (z := (⟨"com/example/afterlog/afterlog/ListValue", "push", "(Lcom/example/afterlog/afterlog/ListValue$End;[B)V"⟩ : MethodName)) hown (mvT hZ (tw hw 28 rfl)) (mvT hZ (tw hw 29 rfl)) (notFace_of_selects (args := #[]) (mvT hZ (tw hw 31 rfl))) (mvT hZ (tw hw 31 rfl)) (mvT hZ (tw hw 30 rfl)) (by decide) (backOf (W := 0) (rm5_8 l Z a0 hw [] u1 w1 u3 u4 u5 w2 u6 h0 n0 Z0 P6 P7 P8 Sg2 P3 F_w1_ordinal F_w2_ordinal P5 P12 P13 P14 P15 P16 P17 P18 P19) hZ (tw hw 32 rfl) (tw hw 3 rfl) (by decide) (by decide)) q2a q2c (g := (mkF m 42 #[rv u1, iv 1, iv u2, rv u3, rv w1] [(.ref u3), (.ref w1), (.ref u1)])) rfl (by rw [hml]; rfl) (Steps.refl _) (argsL := [(.ref w1), (.ref u3)]) (rest := []) (lenOf pd_3 rfl) rfl (by show 2 * 0 + _ ≤ _; exact Nat.le_of_eq rfl) (hb hby d4_42) (fun _ _ => ⟨rfl, e1, (by decide : 0 + 0 ≤ _), (by decide : 0 + 0 ≤ _)⟩)
  dsimp only [Pt.U, Pt.locs, Pt.cells, Pt.slots] at X2 l2 y2 z2 st2 hQ2
  subst l2 y2 z2
  obtain ⟨rfl, N2q, K2c, Fq2_0, Fq2_1, Fq2_2, Fq2_3, Fq2_4, Fq2_5⟩ := hQ2
  have K2 : Keep h0 T2.heap [u4, u1] := (Keep.refl h0 [u4, u1]).trans K2c (allS (Or.inl (List.mem_of_getElem? (i := 0) rfl)) (allS (Or.inl (List.mem_of_getElem? (i := 1) rfl)) all0))
  have N2 := Fr.app N0 N2q
  obtain ⟨fs, hr, hrun, hended, hW, hsame⟩ := X2.leave (v := some (.int 2)) (fun h => by rw [Bd.returns] at h; cases h)
  refine ⟨_, _, pre0 _ ?_, hrun, hended, _, _, rfl, ?_, ⟨_, rfl⟩, hW, hsame.mono (by decide) (by decide)⟩
  · show SF p e below s₁ (mkF m 0 #[rv u1, iv 1, iv u2, rv u3, .unset] []) _
    refine XS.iloadN X0.here hx rfl (hb hby d4_0) rfl ?_
    show SF p e below s₁ (mkF m 1 #[rv u1, iv 1, iv u2, rv u3, .unset] [(.int u2)]) _
    refine XS.iconst X0.here hx rfl (hb hby d4_1) ?_
    show SF p e below s₁ (mkF m 2 #[rv u1, iv 1, iv u2, rv u3, .unset] [(.int 2), (.int u2)]) _
    refine XS.iand X0.here hx rfl (hb hby d4_2) rfl ?_
    show SF p e below s₁ (mkF m 3 #[rv u1, iv 1, iv u2, rv u3, .unset] [(.int (u2 &&& (2 : Int32)))]) _
    refine XS.ifYes X0.here hx rfl (pc0 := 3) (pc' := 12) rfl (hb hby d4_3) rfl ((if0 _ _).trans (teq P1).1) (by decide) (by decide) ?_
    show SF p e below s₁ (mkF m 12 #[rv u1, iv 1, iv u2, rv u3, .unset] []) _
    refine st1 _ ?_
    show SF p e below T1 (mkF m 15 #[rv u1, iv 1, iv u2, rv u3, .unset] [(.ref w1)]) _
    refine XS.astore X1.here hx rfl (hb hby d4_15) rfl rfl (l' := #[rv u1, iv 1, iv u2, rv u3, rv w1]) rfl ?_
    show SF p e below T1 (mkF m 17 #[rv u1, iv 1, iv u2, rv u3, rv w1] []) _
    refine XS.iloadN X1.here hx rfl (hb hby d4_17) rfl ?_
    show SF p e below T1 (mkF m 18 #[rv u1, iv 1, iv u2, rv u3, rv w1] [(.int u2)]) _
    refine XS.iconst X1.here hx rfl (hb hby d4_18) ?_
    show SF p e below T1 (mkF m 19 #[rv u1, iv 1, iv u2, rv u3, rv w1] [(.int 1), (.int u2)]) _
    refine XS.iand X1.here hx rfl (hb hby d4_19) rfl ?_
    show SF p e below T1 (mkF m 20 #[rv u1, iv 1, iv u2, rv u3, rv w1] [(.int (u2 &&& (1 : Int32)))]) _
    refine XS.ifYes X1.here hx rfl (pc0 := 20) (pc' := 38) rfl (hb hby d4_20) rfl ((if0 _ _).trans (teq P4).1) (by decide) (by decide) ?_
    show SF p e below T1 (mkF m 38 #[rv u1, iv 1, iv u2, rv u3, rv w1] []) _
    refine XS.aloadN X1.here hx rfl (hb hby d4_38) rfl rfl ?_
    show SF p e below T1 (mkF m 39 #[rv u1, iv 1, iv u2, rv u3, rv w1] [(.ref u1)]) _
    refine XS.aload X1.here hx rfl (hb hby d4_39) rfl rfl ?_
    show SF p e below T1 (mkF m 41 #[rv u1, iv 1, iv u2, rv u3, rv w1] [(.ref w1), (.ref u1)]) _
    refine XS.aloadN X1.here hx rfl (hb hby d4_41) rfl rfl ?_
    show SF p e below T1 (mkF m 42 #[rv u1, iv 1, iv u2, rv u3, rv w1] [(.ref u3), (.ref w1), (.ref u1)]) _
    refine st2.trans ?_
    show SF p e below T2 (mkF m 45 #[rv u1, iv 1, iv u2, rv u3, rv w1] []) _
    refine XS.iloadN X2.here hx rfl (hb hby d4_45) rfl ?_
    show SF p e below T2 (mkF m 46 #[rv u1, iv 1, iv u2, rv u3, rv w1] [(.int 1)]) _
    refine XS.iconst X2.here hx rfl (hb hby d4_46) ?_
    show SF p e below T2 (mkF m 47 #[rv u1, iv 1, iv u2, rv u3, rv w1] [(.int 1), (.int 1)]) _
    refine XS.iadd X2.here hx rfl (hb hby d4_47) rfl ?_
    show SF p e below T2 (mkF m 48 #[rv u1, iv 1, iv u2, rv u3, rv w1] [(.int ((1 : Int32) + (1 : Int32)))]) _
    rw [show ((1 : Int32) + (1 : Int32)) = (2 : Int32) from by decide]
    show SF p e below T2 (mkF m 48 #[rv u1, iv 1, iv u2, rv u3, rv w1] [(.int 2)]) _
    exact retI X2 hx Bd.returns (hb hby d4_48) hr
  · show Q4_9 Z u1 u2 u3 w1 u4 u5 w2 u6 h0 n0 _ T2.heap _
    exact ⟨rfl, N2, K2, Fq2_1, Fq2_0, Fq2_4, Fq2_2, Fq2_3, Fq2_5⟩
-- ListValue.isEmpty 
def Q3_10 (Z : State) (u1 : Addr) (h0 : Heap) (n0 : Nat) (v : Option Value) (h : Heap) (L : List Loc) : Prop := v = some (.int 0) ∧ Fr n0 L ∧ h = h0
set_option maxRecDepth 65536 in
set_option maxHeartbeats 40000000 in
theorem rm3_10 (l : Launch) (Z : State) (a0 : Array Value) (hw : HW Z a0) (ws : List Jvm.Cond) (u1 : Addr) (h0 : Heap) (n0 : Nat) (Z0 : n0 ≤ h0.size) (P1 : Fld Z h0 u1 "com/example/afterlog/afterlog/ListValue" "size" "I" (.int 2)) :
    MF l Z (⟨"com/example/afterlog/afterlog/ListValue", "isEmpty", "()Z"⟩ : MethodName) (Jvm.Cond.code (⟨"com/example/afterlog/afterlog/ListValue", "isEmpty", "()Z"⟩ : MethodName) prog_24_method_3_code 1 (some .boolean)) ws ({ frames := 0, cells := 0, slots := 0, locals := 0 } : Room) #[(.ref u1)] h0 (Q3_10 Z u1 h0 n0) := by
  refine MetFree.of_bodySF (plainFor_of_name pn_0) hisR ?_
  intro p e s m args below meth c s₁ Bd hml0 hP hK
  obtain ⟨rfl, hZ, hh⟩ := hP
  have hx := Bd.exec
  have hby := Bd.bytes
  have hml : c.maxLocals = 1 := hml0
  have hown : s.vm.findClass "com/example/afterlog/afterlog/ListValue" = some m.cls := findClass_of_methodNamed Bd.named
  have hnm := (name_of_methodNamed Bd.named Bd.method).1
  have X0 : Stand p l e ({ frames := 0, cells := 0, slots := 0, locals := 0 } : Room) s m #[(.ref u1)] below meth c s₁ [] 0 0 := Stand.of_body Bd
  have e0 : s₁.heap = h0 := by rw [← hh, Bd.state]; rfl
  have N0 := Fr.nil n0
  have pre0 : ∀ t, SF p e below s₁ (mkF m 0 #[rv u1] []) t → SF p e below s₁ (entryFrame m #[(.ref u1)] 1) t := fun t k => castTop (ef_1 m u1) k
  obtain ⟨T1, X1, e1, st1⟩ := getF X0 hx hZ hown (host := "") (Or.inl (tw hw 19 rfl)) Via.refl e0 P1 (g := (mkF m 1 #[rv u1] [(.ref u1)])) rfl rfl (hb hby d3_1)
  obtain ⟨fs, hr, hrun, hended, hW, hsame⟩ := X1.leave (v := some (.int 0)) (fun h => by rw [Bd.returns] at h; cases h)
  refine ⟨_, _, pre0 _ ?_, hrun, hended, _, _, rfl, ?_, ⟨_, rfl⟩, hW, hsame.mono (by decide) (by decide)⟩
  · show SF p e below s₁ (mkF m 0 #[rv u1] []) _
    refine XS.aloadN X0.here hx rfl (hb hby d3_0) rfl rfl ?_
    show SF p e below s₁ (mkF m 1 #[rv u1] [(.ref u1)]) _
    refine st1 _ ?_
    show SF p e below T1 (mkF m 4 #[rv u1] [(.int 2)]) _
    refine XS.ifYes X1.here hx rfl (pc0 := 4) (pc' := 11) rfl (hb hby d3_4) rfl ((if0 _ _).trans (feq (by decide : ¬ ((2 : Int32) = (0 : Int32)))).2) (by decide) (by decide) ?_
    show SF p e below T1 (mkF m 11 #[rv u1] []) _
    refine XS.iconst X1.here hx rfl (hb hby d3_11) ?_
    show SF p e below T1 (mkF m 12 #[rv u1] [(.int 0)]) _
    exact retN X1 hx (t := .boolean) Bd.returns (by simp) (hb hby d3_12) hr
  · show Q3_10 Z u1 h0 n0 _ T1.heap _
    rw [e1]
    exact ⟨rfl, N0, rfl⟩
-- ListValue.push 
def Q5_11 (Z : State) (u1 : Addr) (w1 : Addr) (u2 : Addr) (u3 : Addr) (u4 : ClassId) (w2 : Addr) (u5 : Int32) (h0 : Heap) (n0 : Nat) (v : Option Value) (h : Heap) (L : List Loc) : Prop := v = none ∧ Fr n0 L ∧ Keep h0 h [u3, u1] ∧ Ary Z h u3 u4 (.array .byte) (8 : Int32) ∧ Exa Z h u3 "[[B" ∧ Fld Z h u1 "com/example/afterlog/afterlog/ListValue" "size" "I" (.int 3) ∧ Fld Z h u1 "com/example/afterlog/afterlog/ListValue" "elements" "[[B" (.ref u3) ∧ Exa Z h u1 "com/example/afterlog/afterlog/ListValue" ∧ Fld Z h u1 "com/example/afterlog/afterlog/ListValue" "head" "I" (.int u5)
set_option maxRecDepth 65536 in
set_option maxHeartbeats 40000000 in
theorem rm5_11 (l : Launch) (Z : State) (a0 : Array Value) (hw : HW Z a0) (ws : List Jvm.Cond) (u1 : Addr) (w1 : Addr) (u2 : Addr) (u3 : Addr) (u4 : ClassId) (w2 : Addr) (u5 : Int32) (h0 : Heap) (n0 : Nat) (Z0 : n0 ≤ h0.size) (P1 : Fld Z h0 u1 "com/example/afterlog/afterlog/ListValue" "size" "I" (.int 2)) (P2 : Fld Z h0 u1 "com/example/afterlog/afterlog/ListValue" "elements" "[[B" (.ref u3)) (P3 : Ary Z h0 u3 u4 (.array .byte) (8 : Int32)) (Sg2 : Sta Z Z.heap "com/example/afterlog/afterlog/ListValue$End" "HEAD" "Lcom/example/afterlog/afterlog/ListValue$End;" (.ref w2)) (P5 : Old Z n0 h0) (F_w1_ordinal : Fld Z Z.heap w1 "java/lang/Enum" "ordinal" "I" (.int 1)) (F_w2_ordinal : Fld Z Z.heap w2 "java/lang/Enum" "ordinal" "I" (.int 0)) (P8 : Exa Z h0 u1 "com/example/afterlog/afterlog/ListValue") (P9 : Fld Z h0 u1 "com/example/afterlog/afterlog/ListValue" "head" "I" (.int u5)) (P10 : ¬ u5 < (0 : Int32) ∧ u5 < (8 : Int32)) (P11 : Exa Z h0 u3 "[[B") (P12 : OvrA Z u4 .byte "[B") (P13 : Exa Z h0 u2 "[B") (P14 : n0 ≤ u3) (P15 : u1 ≠ u3) (P16 : n0 ≤ u1) :
    MF l Z (⟨"com/example/afterlog/afterlog/ListValue", "push", "(Lcom/example/afterlog/afterlog/ListValue$End;[B)V"⟩ : MethodName) (Jvm.Cond.code (⟨"com/example/afterlog/afterlog/ListValue", "push", "(Lcom/example/afterlog/afterlog/ListValue$End;[B)V"⟩ : MethodName) prog_24_method_6_code 3 none) ws ({ frames := 1, cells := 0, slots := 0, locals := 15 } : Room) #[(.ref u1), (.ref w1), (.ref u2)] h0 (Q5_11 Z u1 w1 u2 u3 u4 w2 u5 h0 n0) := by
  refine MetFree.of_bodySF (plainFor_of_name pn_0) hisR ?_
  intro p e s m args below meth c s₁ Bd hml0 hP hK
  obtain ⟨rfl, hZ, hh⟩ := hP
  have hx := Bd.exec
  have hby := Bd.bytes
  have hml : c.maxLocals = 3 := hml0
  have hown : s.vm.findClass "com/example/afterlog/afterlog/ListValue" = some m.cls := findClass_of_methodNamed Bd.named
  have hnm := (name_of_methodNamed Bd.named Bd.method).1
  have X0 : Stand p l e ({ frames := 1, cells := 0, slots := 0, locals := 15 } : Room) s m #[(.ref u1), (.ref w1), (.ref u2)] below meth c s₁ [] 0 0 := Stand.of_body Bd
  have e0 : s₁.heap = h0 := by rw [← hh, Bd.state]; rfl
  have N0 := Fr.nil n0
  have pre0 : ∀ t, SF p e below s₁ (mkF m 0 #[rv u1, rv w1, rv u2] []) t → SF p e below s₁ (entryFrame m #[(.ref u1), (.ref w1), (.ref u2)] 3) t := fun t k => castTop (ef_3 m u1 w1 u2) k
  obtain ⟨T1, X1, e1, st1⟩ := getF X0 hx hZ hown (host := "") (Or.inl (tw hw 19 rfl)) Via.refl e0 P1 (g := (mkF m 1 #[rv u1, rv w1, rv u2] [(.ref u1)])) rfl rfl (hb hby d5_1)
  obtain ⟨T2, X2, e2, st2⟩ := getF X1 hx hZ hown (host := "") (Or.inl (tw hw 12 rfl)) Via.refl e1 P2 (g := (mkF m 5 #[rv u1, rv w1, rv u2] [(.ref u1), (.int 2)])) rfl rfl (hb hby d5_5)
  obtain ⟨cl3, Ar3, q3, S3, N3z, H3⟩ := id P3
  obtain ⟨T4, X4, e4, st4⟩ := getS2 X2 hx hZ hown (host := "") (Or.inl (tw hw 33 rfl)) Via.refl e2 (Sg2.ext P5.2) (g := (mkF m 17 #[rv u1, rv w1, rv u2] [(.ref w1)])) rfl (hb hby d5_17)
  obtain ⟨T5, X5, e5, st5⟩ := getF X4 hx hZ hown (host := "") (Or.inl (tw hw 12 rfl)) Via.refl e4 P2 (g := (mkF m 52 #[rv u1, rv w1, rv u2] [(.ref u1)])) rfl rfl (hb hby d5_52)
  obtain ⟨T6, X6, e6, st6⟩ := getF X5 hx hZ hown (host := "") (Or.inl (tw hw 19 rfl)) Via.refl e5 P1 (g := (mkF m 57 #[rv u1, rv w1, rv u2] [(.ref u1), (.ref u1), (.ref u3)])) rfl rfl (hb hby d5_57)
  obtain ⟨cq7, q7, q7'⟩ := P8.cell
  obtain ⟨_, _, ⟨T7, L7, k7x, n7⟩, -, X7, ⟨Lc7, hQ7, l7, y7, z7⟩, st7⟩ := X6.privateBack hx (y := (⟨"com/example/afterlog/afterlog/ListValue", "slot", "(I)I"⟩ : MethodName)) hown (mvT hZ (tw hw 35 rfl)) (mvT hZ (tw hw 36 rfl)) (own_selP hZ (tw hw 2 rfl) (tw hw 37 rfl) (tw hw 36 rfl) (by decide)) (Cond.privateMethod_at (mvP hZ (tw hw 37 rfl) (args := #[]))) (mvT hZ (tw hw 38 rfl)) (by decide) (backOf (W := 1) (own_slot l Z a0 hw [] u1 u3 u4 u5 (2 : Int32) h0 n0 Z0 P2 P9 P3 P10 ⟨by decide, by decide⟩) hZ (tw hw 38 rfl) (tw hw 3 rfl) (by decide) (by decide)) (g := (mkF m 60 #[rv u1, rv w1, rv u2] [(.int 2), (.ref u1), (.ref u3)])) rfl (by rw [hml]; rfl) (Steps.refl _) (a := u1) (by rw [e6]; exact q7) q7' (argsL := [(.int 2)]) (rest := [(.ref u3)]) (lenOf pd_2 rfl) rfl (by show 2 * 0 + _ ≤ _; exact Nat.le_of_eq rfl) (hb hby d5_60) (fun _ _ => ⟨rfl, e6, (by decide : 0 + 0 ≤ _), (by decide : 0 + 0 ≤ _)⟩)
  dsimp only [Pt.U, Pt.locs, Pt.cells, Pt.slots] at X7 l7 y7 z7 st7 hQ7
  subst l7 y7 z7
  obtain ⟨w6x, bx_i8, rfl, N7q, e7⟩ := hQ7
  have N7 := Fr.app N0 N7q
  obtain ⟨cl8, Ar8, q8, S8, N8z, H8⟩ := id P3
  have hin8 : ¬ (w6x < 0 ∨ cl8.slots.size ≤ (w6x).toNatClampNeg) := inb_of S8 ⟨(bx_i8).1, (bx_i8).2⟩
  obtain ⟨T9, h9, X9, e9, W9, st9⟩ := stR X7 hx hZ e7 Ar8 (j := w6x) hin8 rfl (Sto.ofVA Ar8 q8 P12 (Ins.self P13)) (g := (mkF m 64 #[rv u1, rv w1, rv u2] [(.ref u2), (.int w6x), (.ref u3)])) rfl rfl (hb hby d5_64)
  have K9 : Keep h0 h9 [u3, u1] := (Keep.refl h0 [u3, u1]).wr W9 (Or.inl (List.mem_of_getElem? (i := 0) rfl))
  have N9 := Fr.snoc X9 N7 P14
  have V9 : Ary Z h9 u3 u4 (.array .byte) (8 : Int32) := Ary.set Ar8 q8 S8 N8z H8 rfl W9
  have F1_10 : Fld Z h9 u1 "com/example/afterlog/afterlog/ListValue" "size" "I" (.int 2) := P1.other W9 (Or.inl P15)
  obtain ⟨T11, X11, e11, st11⟩ := getF X9 hx hZ hown (host := "") (Or.inl (tw hw 19 rfl)) Via.refl e9 F1_10 (g := (mkF m 67 #[rv u1, rv w1, rv u2] [(.ref u1), (.ref u1)])) rfl rfl (hb hby d5_67)
  have F1_12 : Exa Z h9 u1 "com/example/afterlog/afterlog/ListValue" := P8.wr W9
  have F1_13 : Fld Z h9 u1 "com/example/afterlog/afterlog/ListValue" "elements" "[[B" (.ref u3) := P2.other W9 (Or.inl P15)
  have F1_14 : Fld Z h9 u1 "com/example/afterlog/afterlog/ListValue" "head" "I" (.int u5) := P9.other W9 (Or.inl P15)
  obtain ⟨T15, h15, X15, e15, W15, st15⟩ := putF X11 hx hZ hown (host := "") (Or.inl (tw hw 19 rfl)) Via.refl e11 F1_10 F1_12 (Or.inl (tw hw 20 rfl)) (tw hw 2 rfl) (ty := .int) (by decide) rfl rfl (g := (mkF m 72 #[rv u1, rv w1, rv u2] [(.int 3), (.ref u1)])) rfl rfl (hb hby d5_72)
  have K15 : Keep h0 h15 [u3, u1] := K9.wr W15 (Or.inl (List.mem_of_getElem? (i := 1) rfl))
  have N15 := Fr.snoc X15 N9 P16
  have Fw15 : Fld Z h15 u1 "com/example/afterlog/afterlog/ListValue" "size" "I" (.int 3) := F1_10.same W15
  have F2_16 : Ary Z h15 u3 u4 (.array .byte) (8 : Int32) := V9.other W15 (Ne.symm P15)
  have F1_17 : Exa Z h9 u3 "[[B" := P11.wr W9
  have F2_18 : Exa Z h15 u3 "[[B" := F1_17.wr W15
  have F2_19 : Fld Z h15 u1 "com/example/afterlog/afterlog/ListValue" "elements" "[[B" (.ref u3) := F1_13.other W15 (Or.inr (slot_ne (Or.inl (tw hw 13 rfl)) (Or.inl (tw hw 20 rfl)) (by decide) (t := (.array (.array .byte))) (t' := .int) (by decide) (by decide)))
  have F2_20 : Exa Z h15 u1 "com/example/afterlog/afterlog/ListValue" := F1_12.wr W15
  have F2_21 : Fld Z h15 u1 "com/example/afterlog/afterlog/ListValue" "head" "I" (.int u5) := F1_14.other W15 (Or.inr (slot_ne (Or.inl (tw hw 40 rfl)) (Or.inl (tw hw 20 rfl)) (by decide) (t := .int) (t' := .int) (by decide) (by decide)))
  obtain ⟨fs, hr, hrun, hended, hW, hsame⟩ := X15.leave (v := none) (fun _ => rfl)
  refine ⟨_, _, pre0 _ ?_, hrun, hended, _, _, rfl, ?_, ⟨_, rfl⟩, hW, hsame.mono (by decide) (by decide)⟩
  · show SF p e below s₁ (mkF m 0 #[rv u1, rv w1, rv u2] []) _
    refine XS.aloadN X0.here hx rfl (hb hby d5_0) rfl rfl ?_
    show SF p e below s₁ (mkF m 1 #[rv u1, rv w1, rv u2] [(.ref u1)]) _
    refine st1 _ ?_
    show SF p e below T1 (mkF m 4 #[rv u1, rv w1, rv u2] [(.int 2)]) _
    refine XS.aloadN X1.here hx rfl (hb hby d5_4) rfl rfl ?_
    show SF p e below T1 (mkF m 5 #[rv u1, rv w1, rv u2] [(.ref u1), (.int 2)]) _
    refine st2 _ ?_
    show SF p e below T2 (mkF m 8 #[rv u1, rv w1, rv u2] [(.ref u3), (.int 2)]) _
    refine X2.arraylength hx (by rw [e2]; exact Ar3.1) (State.isArrayOf_alike hZ.alike Ar3.2.1) (g := (mkF m 8 #[rv u1, rv w1, rv u2] [(.ref u3), (.int 2)])) rfl rfl (hb hby d5_8) _ ?_
    rw [len_of S3 N3z]
    show SF p e below T2 (mkF m 9 #[rv u1, rv w1, rv u2] [(.int 8), (.int 2)]) _
    refine XS.icmpYes X2.here hx rfl (pc0 := 9) (pc' := 16) rfl (hb hby d5_9) rfl (feq (by decide : ¬ ((2 : Int32) = (8 : Int32)))).2 (by decide) (by decide) ?_
    show SF p e below T2 (mkF m 16 #[rv u1, rv w1, rv u2] []) _
    refine XS.aloadN X2.here hx rfl (hb hby d5_16) rfl rfl ?_
    show SF p e below T2 (mkF m 17 #[rv u1, rv w1, rv u2] [(.ref w1)]) _
    refine st4 _ ?_
    show SF p e below T4 (mkF m 20 #[rv u1, rv w1, rv u2] [(.ref w2), (.ref w1)]) _
    refine Jvm.RoadKit.acmp (g := (mkF m 20 #[rv u1, rv w1, rv u2] [(.ref w2), (.ref w1)])) X4 hx rfl rfl rfl (pc0 := 20) (pc' := 51) (same := false) rfl (hb hby d5_20) rfl (decide_eq_false fun q => (Fld.ne F_w1_ordinal F_w2_ordinal (by decide)) (Value.ref.inj q)) (by decide) (by decide) ?_
    show SF p e below T4 (mkF m 51 #[rv u1, rv w1, rv u2] []) _
    refine XS.aloadN X4.here hx rfl (hb hby d5_51) rfl rfl ?_
    show SF p e below T4 (mkF m 52 #[rv u1, rv w1, rv u2] [(.ref u1)]) _
    refine st5 _ ?_
    show SF p e below T5 (mkF m 55 #[rv u1, rv w1, rv u2] [(.ref u3)]) _
    refine XS.aloadN X5.here hx rfl (hb hby d5_55) rfl rfl ?_
    show SF p e below T5 (mkF m 56 #[rv u1, rv w1, rv u2] [(.ref u1), (.ref u3)]) _
    refine XS.aloadN X5.here hx rfl (hb hby d5_56) rfl rfl ?_
    show SF p e below T5 (mkF m 57 #[rv u1, rv w1, rv u2] [(.ref u1), (.ref u1), (.ref u3)]) _
    refine st6 _ ?_
    show SF p e below T6 (mkF m 60 #[rv u1, rv w1, rv u2] [(.int 2), (.ref u1), (.ref u3)]) _
    refine st7.trans ?_
    show SF p e below T7 (mkF m 63 #[rv u1, rv w1, rv u2] [(.int w6x), (.ref u3)]) _
    refine XS.aloadN X7.here hx rfl (hb hby d5_63) rfl rfl ?_
    show SF p e below T7 (mkF m 64 #[rv u1, rv w1, rv u2] [(.ref u2), (.int w6x), (.ref u3)]) _
    refine st9 _ ?_
    show SF p e below T9 (mkF m 65 #[rv u1, rv w1, rv u2] []) _
    refine XS.aloadN X9.here hx rfl (hb hby d5_65) rfl rfl ?_
    show SF p e below T9 (mkF m 66 #[rv u1, rv w1, rv u2] [(.ref u1)]) _
    refine XS.dup X9.here hx rfl (hb hby d5_66) rfl rfl ?_
    show SF p e below T9 (mkF m 67 #[rv u1, rv w1, rv u2] [(.ref u1), (.ref u1)]) _
    refine st11 _ ?_
    show SF p e below T11 (mkF m 70 #[rv u1, rv w1, rv u2] [(.int 2), (.ref u1)]) _
    refine XS.iconst X11.here hx rfl (hb hby d5_70) ?_
    show SF p e below T11 (mkF m 71 #[rv u1, rv w1, rv u2] [(.int 1), (.int 2), (.ref u1)]) _
    refine XS.iadd X11.here hx rfl (hb hby d5_71) rfl ?_
    show SF p e below T11 (mkF m 72 #[rv u1, rv w1, rv u2] [(.int ((2 : Int32) + (1 : Int32))), (.ref u1)]) _
    rw [show ((2 : Int32) + (1 : Int32)) = (3 : Int32) from by decide]
    show SF p e below T11 (mkF m 72 #[rv u1, rv w1, rv u2] [(.int 3), (.ref u1)]) _
    refine st15 _ ?_
    show SF p e below T15 (mkF m 75 #[rv u1, rv w1, rv u2] []) _
    exact X15.returnOut hx Bd.returns (hb hby d5_75) hr
  · show Q5_11 Z u1 w1 u2 u3 u4 w2 u5 h0 n0 _ T15.heap _
    rw [e15]
    exact ⟨rfl, N15, K15, F2_16, F2_18, Fw15, F2_19, F2_20, F2_21⟩
-- ListValueIsEmptyPinLaw.step 
def Q4_12 (Z : State) (u1 : Addr) (u2 : Int32) (u3 : Addr) (w1 : Addr) (u4 : Addr) (u5 : ClassId) (w2 : Addr) (u6 : Int32) (h0 : Heap) (n0 : Nat) (v : Option Value) (h : Heap) (L : List Loc) : Prop := v = some (.int 3) ∧ Fr n0 L ∧ Keep h0 h [u4, u1] ∧ Exa Z h u4 "[[B" ∧ Ary Z h u4 u5 (.array .byte) (8 : Int32) ∧ Exa Z h u1 "com/example/afterlog/afterlog/ListValue" ∧ Fld Z h u1 "com/example/afterlog/afterlog/ListValue" "size" "I" (.int 3) ∧ Fld Z h u1 "com/example/afterlog/afterlog/ListValue" "elements" "[[B" (.ref u4) ∧ Fld Z h u1 "com/example/afterlog/afterlog/ListValue" "head" "I" (.int u6)
set_option maxRecDepth 65536 in
set_option maxHeartbeats 40000000 in
theorem rm4_12 (l : Launch) (Z : State) (a0 : Array Value) (hw : HW Z a0) (ws : List Jvm.Cond) (u1 : Addr) (u2 : Int32) (u3 : Addr) (w1 : Addr) (u4 : Addr) (u5 : ClassId) (w2 : Addr) (u6 : Int32) (h0 : Heap) (n0 : Nat) (Z0 : n0 ≤ h0.size) (P1 : (u2 &&& (2 : Int32)) = (0 : Int32)) (Sg0 : Sta Z Z.heap "com/example/afterlog/afterlog/ListValue$End" "TAIL" "Lcom/example/afterlog/afterlog/ListValue$End;" (.ref w1)) (P3 : Old Z n0 h0) (P4 : (u2 &&& (1 : Int32)) = (0 : Int32)) (P5 : Exa Z h0 u1 "com/example/afterlog/afterlog/ListValue") (P6 : Fld Z h0 u1 "com/example/afterlog/afterlog/ListValue" "size" "I" (.int 2)) (P7 : Fld Z h0 u1 "com/example/afterlog/afterlog/ListValue" "elements" "[[B" (.ref u4)) (P8 : Ary Z h0 u4 u5 (.array .byte) (8 : Int32)) (Sg2 : Sta Z Z.heap "com/example/afterlog/afterlog/ListValue$End" "HEAD" "Lcom/example/afterlog/afterlog/ListValue$End;" (.ref w2)) (F_w1_ordinal : Fld Z Z.heap w1 "java/lang/Enum" "ordinal" "I" (.int 1)) (F_w2_ordinal : Fld Z Z.heap w2 "java/lang/Enum" "ordinal" "I" (.int 0)) (P12 : Fld Z h0 u1 "com/example/afterlog/afterlog/ListValue" "head" "I" (.int u6)) (P13 : ¬ u6 < (0 : Int32) ∧ u6 < (8 : Int32)) (P14 : Exa Z h0 u4 "[[B") (P15 : OvrA Z u5 .byte "[B") (P16 : Exa Z h0 u3 "[B") (P17 : n0 ≤ u4) (P18 : u1 ≠ u4) (P19 : n0 ≤ u1) :
    MF l Z (⟨"com/example/afterlog/afterlog/ListValueIsEmptyPinLaw", "step", "(Lcom/example/afterlog/afterlog/ListValue;II[B)I"⟩ : MethodName) (Jvm.Cond.code (⟨"com/example/afterlog/afterlog/ListValueIsEmptyPinLaw", "step", "(Lcom/example/afterlog/afterlog/ListValue;II[B)I"⟩ : MethodName) method_3_code 5 (some .int)) ws ({ frames := 2, cells := 0, slots := 0, locals := 29 } : Room) #[(.ref u1), (.int 2), (.int u2), (.ref u3)] h0 (Q4_12 Z u1 u2 u3 w1 u4 u5 w2 u6 h0 n0) := by
  refine MetFree.of_bodySF (plainFor_of_name pn_1) hisR ?_
  intro p e s m args below meth c s₁ Bd hml0 hP hK
  obtain ⟨rfl, hZ, hh⟩ := hP
  have hx := Bd.exec
  have hby := Bd.bytes
  have hml : c.maxLocals = 5 := hml0
  have hown : s.vm.findClass "com/example/afterlog/afterlog/ListValueIsEmptyPinLaw" = some m.cls := findClass_of_methodNamed Bd.named
  have hnm := (name_of_methodNamed Bd.named Bd.method).1
  have X0 : Stand p l e ({ frames := 2, cells := 0, slots := 0, locals := 29 } : Room) s m #[(.ref u1), (.int 2), (.int u2), (.ref u3)] below meth c s₁ [] 0 0 := Stand.of_body Bd
  have e0 : s₁.heap = h0 := by rw [← hh, Bd.state]; rfl
  have N0 := Fr.nil n0
  have pre0 : ∀ t, SF p e below s₁ (mkF m 0 #[rv u1, iv 2, iv u2, rv u3, .unset] []) t → SF p e below s₁ (entryFrame m #[(.ref u1), (.int 2), (.int u2), (.ref u3)] 5) t := fun t k => castTop (ef_4 m u1 (2 : Int32) u2 u3) k
  obtain ⟨T1, X1, e1, st1⟩ := getS2 X0 hx hZ hown (host := "") (Or.inl (tw hw 25 rfl)) Via.refl e0 (Sg0.ext P3.2) (g := (mkF m 12 #[rv u1, iv 2, iv u2, rv u3, .unset] [])) rfl (hb hby d4_12)
  obtain ⟨cq2, kq2, q2a, q2b, q2c⟩ := isOf hZ e1 P5
  obtain ⟨_, _, ⟨T2, L2, k2x, n2⟩, -, X2, ⟨Lc2, hQ2, l2, y2, z2⟩, st2⟩ := X1.virtualBack hx (y := (⟨"com/example/afterlog/afterlog/ListValue", "push", "(Lcom/example/afterlog/afterlog/ListValue$End;[B)V"⟩ : MethodName)) (z := (⟨"com/example/afterlog/afterlog/ListValue", "push", "(Lcom/example/afterlog/afterlog/ListValue$End;[B)V"⟩ : MethodName)) hown (mvT hZ (tw hw 28 rfl)) (mvT hZ (tw hw 29 rfl)) (notFace_of_selects (args := #[]) (mvT hZ (tw hw 31 rfl))) (mvT hZ (tw hw 31 rfl)) (mvT hZ (tw hw 30 rfl)) (by decide) (backOf (W := 0) (rm5_11 l Z a0 hw [] u1 w1 u3 u4 u5 w2 u6 h0 n0 Z0 P6 P7 P8 Sg2 P3 F_w1_ordinal F_w2_ordinal P5 P12 P13 P14 P15 P16 P17 P18 P19) hZ (tw hw 32 rfl) (tw hw 3 rfl) (by decide) (by decide)) q2a q2c (g := (mkF m 42 #[rv u1, iv 2, iv u2, rv u3, rv w1] [(.ref u3), (.ref w1), (.ref u1)])) rfl (by rw [hml]; rfl) (Steps.refl _) (argsL := [(.ref w1), (.ref u3)]) (rest := []) (lenOf pd_3 rfl) rfl (by show 2 * 0 + _ ≤ _; exact Nat.le_of_eq rfl) (hb hby d4_42) (fun _ _ => ⟨rfl, e1, (by decide : 0 + 0 ≤ _), (by decide : 0 + 0 ≤ _)⟩)
  dsimp only [Pt.U, Pt.locs, Pt.cells, Pt.slots] at X2 l2 y2 z2 st2 hQ2
  subst l2 y2 z2
  obtain ⟨rfl, N2q, K2c, Fq2_0, Fq2_1, Fq2_2, Fq2_3, Fq2_4, Fq2_5⟩ := hQ2
  have K2 : Keep h0 T2.heap [u4, u1] := (Keep.refl h0 [u4, u1]).trans K2c (allS (Or.inl (List.mem_of_getElem? (i := 0) rfl)) (allS (Or.inl (List.mem_of_getElem? (i := 1) rfl)) all0))
  have N2 := Fr.app N0 N2q
  obtain ⟨fs, hr, hrun, hended, hW, hsame⟩ := X2.leave (v := some (.int 3)) (fun h => by rw [Bd.returns] at h; cases h)
  refine ⟨_, _, pre0 _ ?_, hrun, hended, _, _, rfl, ?_, ⟨_, rfl⟩, hW, hsame.mono (by decide) (by decide)⟩
  · show SF p e below s₁ (mkF m 0 #[rv u1, iv 2, iv u2, rv u3, .unset] []) _
    refine XS.iloadN X0.here hx rfl (hb hby d4_0) rfl ?_
    show SF p e below s₁ (mkF m 1 #[rv u1, iv 2, iv u2, rv u3, .unset] [(.int u2)]) _
    refine XS.iconst X0.here hx rfl (hb hby d4_1) ?_
    show SF p e below s₁ (mkF m 2 #[rv u1, iv 2, iv u2, rv u3, .unset] [(.int 2), (.int u2)]) _
    refine XS.iand X0.here hx rfl (hb hby d4_2) rfl ?_
    show SF p e below s₁ (mkF m 3 #[rv u1, iv 2, iv u2, rv u3, .unset] [(.int (u2 &&& (2 : Int32)))]) _
    refine XS.ifYes X0.here hx rfl (pc0 := 3) (pc' := 12) rfl (hb hby d4_3) rfl ((if0 _ _).trans (teq P1).1) (by decide) (by decide) ?_
    show SF p e below s₁ (mkF m 12 #[rv u1, iv 2, iv u2, rv u3, .unset] []) _
    refine st1 _ ?_
    show SF p e below T1 (mkF m 15 #[rv u1, iv 2, iv u2, rv u3, .unset] [(.ref w1)]) _
    refine XS.astore X1.here hx rfl (hb hby d4_15) rfl rfl (l' := #[rv u1, iv 2, iv u2, rv u3, rv w1]) rfl ?_
    show SF p e below T1 (mkF m 17 #[rv u1, iv 2, iv u2, rv u3, rv w1] []) _
    refine XS.iloadN X1.here hx rfl (hb hby d4_17) rfl ?_
    show SF p e below T1 (mkF m 18 #[rv u1, iv 2, iv u2, rv u3, rv w1] [(.int u2)]) _
    refine XS.iconst X1.here hx rfl (hb hby d4_18) ?_
    show SF p e below T1 (mkF m 19 #[rv u1, iv 2, iv u2, rv u3, rv w1] [(.int 1), (.int u2)]) _
    refine XS.iand X1.here hx rfl (hb hby d4_19) rfl ?_
    show SF p e below T1 (mkF m 20 #[rv u1, iv 2, iv u2, rv u3, rv w1] [(.int (u2 &&& (1 : Int32)))]) _
    refine XS.ifYes X1.here hx rfl (pc0 := 20) (pc' := 38) rfl (hb hby d4_20) rfl ((if0 _ _).trans (teq P4).1) (by decide) (by decide) ?_
    show SF p e below T1 (mkF m 38 #[rv u1, iv 2, iv u2, rv u3, rv w1] []) _
    refine XS.aloadN X1.here hx rfl (hb hby d4_38) rfl rfl ?_
    show SF p e below T1 (mkF m 39 #[rv u1, iv 2, iv u2, rv u3, rv w1] [(.ref u1)]) _
    refine XS.aload X1.here hx rfl (hb hby d4_39) rfl rfl ?_
    show SF p e below T1 (mkF m 41 #[rv u1, iv 2, iv u2, rv u3, rv w1] [(.ref w1), (.ref u1)]) _
    refine XS.aloadN X1.here hx rfl (hb hby d4_41) rfl rfl ?_
    show SF p e below T1 (mkF m 42 #[rv u1, iv 2, iv u2, rv u3, rv w1] [(.ref u3), (.ref w1), (.ref u1)]) _
    refine st2.trans ?_
    show SF p e below T2 (mkF m 45 #[rv u1, iv 2, iv u2, rv u3, rv w1] []) _
    refine XS.iloadN X2.here hx rfl (hb hby d4_45) rfl ?_
    show SF p e below T2 (mkF m 46 #[rv u1, iv 2, iv u2, rv u3, rv w1] [(.int 2)]) _
    refine XS.iconst X2.here hx rfl (hb hby d4_46) ?_
    show SF p e below T2 (mkF m 47 #[rv u1, iv 2, iv u2, rv u3, rv w1] [(.int 1), (.int 2)]) _
    refine XS.iadd X2.here hx rfl (hb hby d4_47) rfl ?_
    show SF p e below T2 (mkF m 48 #[rv u1, iv 2, iv u2, rv u3, rv w1] [(.int ((2 : Int32) + (1 : Int32)))]) _
    rw [show ((2 : Int32) + (1 : Int32)) = (3 : Int32) from by decide]
    show SF p e below T2 (mkF m 48 #[rv u1, iv 2, iv u2, rv u3, rv w1] [(.int 3)]) _
    exact retI X2 hx Bd.returns (hb hby d4_48) hr
  · show Q4_12 Z u1 u2 u3 w1 u4 u5 w2 u6 h0 n0 _ T2.heap _
    exact ⟨rfl, N2, K2, Fq2_1, Fq2_0, Fq2_4, Fq2_2, Fq2_3, Fq2_5⟩
-- ListValue.isEmpty 
def Q3_13 (Z : State) (u1 : Addr) (h0 : Heap) (n0 : Nat) (v : Option Value) (h : Heap) (L : List Loc) : Prop := v = some (.int 0) ∧ Fr n0 L ∧ h = h0
set_option maxRecDepth 65536 in
set_option maxHeartbeats 40000000 in
theorem rm3_13 (l : Launch) (Z : State) (a0 : Array Value) (hw : HW Z a0) (ws : List Jvm.Cond) (u1 : Addr) (h0 : Heap) (n0 : Nat) (Z0 : n0 ≤ h0.size) (P1 : Fld Z h0 u1 "com/example/afterlog/afterlog/ListValue" "size" "I" (.int 3)) :
    MF l Z (⟨"com/example/afterlog/afterlog/ListValue", "isEmpty", "()Z"⟩ : MethodName) (Jvm.Cond.code (⟨"com/example/afterlog/afterlog/ListValue", "isEmpty", "()Z"⟩ : MethodName) prog_24_method_3_code 1 (some .boolean)) ws ({ frames := 0, cells := 0, slots := 0, locals := 0 } : Room) #[(.ref u1)] h0 (Q3_13 Z u1 h0 n0) := by
  refine MetFree.of_bodySF (plainFor_of_name pn_0) hisR ?_
  intro p e s m args below meth c s₁ Bd hml0 hP hK
  obtain ⟨rfl, hZ, hh⟩ := hP
  have hx := Bd.exec
  have hby := Bd.bytes
  have hml : c.maxLocals = 1 := hml0
  have hown : s.vm.findClass "com/example/afterlog/afterlog/ListValue" = some m.cls := findClass_of_methodNamed Bd.named
  have hnm := (name_of_methodNamed Bd.named Bd.method).1
  have X0 : Stand p l e ({ frames := 0, cells := 0, slots := 0, locals := 0 } : Room) s m #[(.ref u1)] below meth c s₁ [] 0 0 := Stand.of_body Bd
  have e0 : s₁.heap = h0 := by rw [← hh, Bd.state]; rfl
  have N0 := Fr.nil n0
  have pre0 : ∀ t, SF p e below s₁ (mkF m 0 #[rv u1] []) t → SF p e below s₁ (entryFrame m #[(.ref u1)] 1) t := fun t k => castTop (ef_1 m u1) k
  obtain ⟨T1, X1, e1, st1⟩ := getF X0 hx hZ hown (host := "") (Or.inl (tw hw 19 rfl)) Via.refl e0 P1 (g := (mkF m 1 #[rv u1] [(.ref u1)])) rfl rfl (hb hby d3_1)
  obtain ⟨fs, hr, hrun, hended, hW, hsame⟩ := X1.leave (v := some (.int 0)) (fun h => by rw [Bd.returns] at h; cases h)
  refine ⟨_, _, pre0 _ ?_, hrun, hended, _, _, rfl, ?_, ⟨_, rfl⟩, hW, hsame.mono (by decide) (by decide)⟩
  · show SF p e below s₁ (mkF m 0 #[rv u1] []) _
    refine XS.aloadN X0.here hx rfl (hb hby d3_0) rfl rfl ?_
    show SF p e below s₁ (mkF m 1 #[rv u1] [(.ref u1)]) _
    refine st1 _ ?_
    show SF p e below T1 (mkF m 4 #[rv u1] [(.int 3)]) _
    refine XS.ifYes X1.here hx rfl (pc0 := 4) (pc' := 11) rfl (hb hby d3_4) rfl ((if0 _ _).trans (feq (by decide : ¬ ((3 : Int32) = (0 : Int32)))).2) (by decide) (by decide) ?_
    show SF p e below T1 (mkF m 11 #[rv u1] []) _
    refine XS.iconst X1.here hx rfl (hb hby d3_11) ?_
    show SF p e below T1 (mkF m 12 #[rv u1] [(.int 0)]) _
    exact retN X1 hx (t := .boolean) Bd.returns (by simp) (hb hby d3_12) hr
  · show Q3_13 Z u1 h0 n0 _ T1.heap _
    rw [e1]
    exact ⟨rfl, N0, rfl⟩
-- ListValue.push 
def Q5_14 (Z : State) (u1 : Addr) (w1 : Addr) (u2 : Addr) (u3 : Addr) (u4 : ClassId) (w2 : Addr) (u5 : Int32) (h0 : Heap) (n0 : Nat) (v : Option Value) (h : Heap) (L : List Loc) : Prop := v = none ∧ Fr n0 L ∧ Keep h0 h [u3, u1] ∧ Ary Z h u3 u4 (.array .byte) (8 : Int32) ∧ Exa Z h u3 "[[B" ∧ Fld Z h u1 "com/example/afterlog/afterlog/ListValue" "size" "I" (.int 4) ∧ Fld Z h u1 "com/example/afterlog/afterlog/ListValue" "elements" "[[B" (.ref u3) ∧ Exa Z h u1 "com/example/afterlog/afterlog/ListValue" ∧ Fld Z h u1 "com/example/afterlog/afterlog/ListValue" "head" "I" (.int u5)
set_option maxRecDepth 65536 in
set_option maxHeartbeats 40000000 in
theorem rm5_14 (l : Launch) (Z : State) (a0 : Array Value) (hw : HW Z a0) (ws : List Jvm.Cond) (u1 : Addr) (w1 : Addr) (u2 : Addr) (u3 : Addr) (u4 : ClassId) (w2 : Addr) (u5 : Int32) (h0 : Heap) (n0 : Nat) (Z0 : n0 ≤ h0.size) (P1 : Fld Z h0 u1 "com/example/afterlog/afterlog/ListValue" "size" "I" (.int 3)) (P2 : Fld Z h0 u1 "com/example/afterlog/afterlog/ListValue" "elements" "[[B" (.ref u3)) (P3 : Ary Z h0 u3 u4 (.array .byte) (8 : Int32)) (Sg2 : Sta Z Z.heap "com/example/afterlog/afterlog/ListValue$End" "HEAD" "Lcom/example/afterlog/afterlog/ListValue$End;" (.ref w2)) (P5 : Old Z n0 h0) (F_w1_ordinal : Fld Z Z.heap w1 "java/lang/Enum" "ordinal" "I" (.int 1)) (F_w2_ordinal : Fld Z Z.heap w2 "java/lang/Enum" "ordinal" "I" (.int 0)) (P8 : Exa Z h0 u1 "com/example/afterlog/afterlog/ListValue") (P9 : Fld Z h0 u1 "com/example/afterlog/afterlog/ListValue" "head" "I" (.int u5)) (P10 : ¬ u5 < (0 : Int32) ∧ u5 < (8 : Int32)) (P11 : Exa Z h0 u3 "[[B") (P12 : OvrA Z u4 .byte "[B") (P13 : Exa Z h0 u2 "[B") (P14 : n0 ≤ u3) (P15 : u1 ≠ u3) (P16 : n0 ≤ u1) :
    MF l Z (⟨"com/example/afterlog/afterlog/ListValue", "push", "(Lcom/example/afterlog/afterlog/ListValue$End;[B)V"⟩ : MethodName) (Jvm.Cond.code (⟨"com/example/afterlog/afterlog/ListValue", "push", "(Lcom/example/afterlog/afterlog/ListValue$End;[B)V"⟩ : MethodName) prog_24_method_6_code 3 none) ws ({ frames := 1, cells := 0, slots := 0, locals := 15 } : Room) #[(.ref u1), (.ref w1), (.ref u2)] h0 (Q5_14 Z u1 w1 u2 u3 u4 w2 u5 h0 n0) := by
  refine MetFree.of_bodySF (plainFor_of_name pn_0) hisR ?_
  intro p e s m args below meth c s₁ Bd hml0 hP hK
  obtain ⟨rfl, hZ, hh⟩ := hP
  have hx := Bd.exec
  have hby := Bd.bytes
  have hml : c.maxLocals = 3 := hml0
  have hown : s.vm.findClass "com/example/afterlog/afterlog/ListValue" = some m.cls := findClass_of_methodNamed Bd.named
  have hnm := (name_of_methodNamed Bd.named Bd.method).1
  have X0 : Stand p l e ({ frames := 1, cells := 0, slots := 0, locals := 15 } : Room) s m #[(.ref u1), (.ref w1), (.ref u2)] below meth c s₁ [] 0 0 := Stand.of_body Bd
  have e0 : s₁.heap = h0 := by rw [← hh, Bd.state]; rfl
  have N0 := Fr.nil n0
  have pre0 : ∀ t, SF p e below s₁ (mkF m 0 #[rv u1, rv w1, rv u2] []) t → SF p e below s₁ (entryFrame m #[(.ref u1), (.ref w1), (.ref u2)] 3) t := fun t k => castTop (ef_3 m u1 w1 u2) k
  obtain ⟨T1, X1, e1, st1⟩ := getF X0 hx hZ hown (host := "") (Or.inl (tw hw 19 rfl)) Via.refl e0 P1 (g := (mkF m 1 #[rv u1, rv w1, rv u2] [(.ref u1)])) rfl rfl (hb hby d5_1)
  obtain ⟨T2, X2, e2, st2⟩ := getF X1 hx hZ hown (host := "") (Or.inl (tw hw 12 rfl)) Via.refl e1 P2 (g := (mkF m 5 #[rv u1, rv w1, rv u2] [(.ref u1), (.int 3)])) rfl rfl (hb hby d5_5)
  obtain ⟨cl3, Ar3, q3, S3, N3z, H3⟩ := id P3
  obtain ⟨T4, X4, e4, st4⟩ := getS2 X2 hx hZ hown (host := "") (Or.inl (tw hw 33 rfl)) Via.refl e2 (Sg2.ext P5.2) (g := (mkF m 17 #[rv u1, rv w1, rv u2] [(.ref w1)])) rfl (hb hby d5_17)
  obtain ⟨T5, X5, e5, st5⟩ := getF X4 hx hZ hown (host := "") (Or.inl (tw hw 12 rfl)) Via.refl e4 P2 (g := (mkF m 52 #[rv u1, rv w1, rv u2] [(.ref u1)])) rfl rfl (hb hby d5_52)
  obtain ⟨T6, X6, e6, st6⟩ := getF X5 hx hZ hown (host := "") (Or.inl (tw hw 19 rfl)) Via.refl e5 P1 (g := (mkF m 57 #[rv u1, rv w1, rv u2] [(.ref u1), (.ref u1), (.ref u3)])) rfl rfl (hb hby d5_57)
  obtain ⟨cq7, q7, q7'⟩ := P8.cell
  obtain ⟨_, _, ⟨T7, L7, k7x, n7⟩, -, X7, ⟨Lc7, hQ7, l7, y7, z7⟩, st7⟩ := X6.privateBack hx (y := (⟨"com/example/afterlog/afterlog/ListValue", "slot", "(I)I"⟩ : MethodName)) hown (mvT hZ (tw hw 35 rfl)) (mvT hZ (tw hw 36 rfl)) (own_selP hZ (tw hw 2 rfl) (tw hw 37 rfl) (tw hw 36 rfl) (by decide)) (Cond.privateMethod_at (mvP hZ (tw hw 37 rfl) (args := #[]))) (mvT hZ (tw hw 38 rfl)) (by decide) (backOf (W := 1) (own_slot l Z a0 hw [] u1 u3 u4 u5 (3 : Int32) h0 n0 Z0 P2 P9 P3 P10 ⟨by decide, by decide⟩) hZ (tw hw 38 rfl) (tw hw 3 rfl) (by decide) (by decide)) (g := (mkF m 60 #[rv u1, rv w1, rv u2] [(.int 3), (.ref u1), (.ref u3)])) rfl (by rw [hml]; rfl) (Steps.refl _) (a := u1) (by rw [e6]; exact q7) q7' (argsL := [(.int 3)]) (rest := [(.ref u3)]) (lenOf pd_2 rfl) rfl (by show 2 * 0 + _ ≤ _; exact Nat.le_of_eq rfl) (hb hby d5_60) (fun _ _ => ⟨rfl, e6, (by decide : 0 + 0 ≤ _), (by decide : 0 + 0 ≤ _)⟩)
  dsimp only [Pt.U, Pt.locs, Pt.cells, Pt.slots] at X7 l7 y7 z7 st7 hQ7
  subst l7 y7 z7
  obtain ⟨w6x, bx_i9, rfl, N7q, e7⟩ := hQ7
  have N7 := Fr.app N0 N7q
  obtain ⟨cl8, Ar8, q8, S8, N8z, H8⟩ := id P3
  have hin8 : ¬ (w6x < 0 ∨ cl8.slots.size ≤ (w6x).toNatClampNeg) := inb_of S8 ⟨(bx_i9).1, (bx_i9).2⟩
  obtain ⟨T9, h9, X9, e9, W9, st9⟩ := stR X7 hx hZ e7 Ar8 (j := w6x) hin8 rfl (Sto.ofVA Ar8 q8 P12 (Ins.self P13)) (g := (mkF m 64 #[rv u1, rv w1, rv u2] [(.ref u2), (.int w6x), (.ref u3)])) rfl rfl (hb hby d5_64)
  have K9 : Keep h0 h9 [u3, u1] := (Keep.refl h0 [u3, u1]).wr W9 (Or.inl (List.mem_of_getElem? (i := 0) rfl))
  have N9 := Fr.snoc X9 N7 P14
  have V9 : Ary Z h9 u3 u4 (.array .byte) (8 : Int32) := Ary.set Ar8 q8 S8 N8z H8 rfl W9
  have F1_10 : Fld Z h9 u1 "com/example/afterlog/afterlog/ListValue" "size" "I" (.int 3) := P1.other W9 (Or.inl P15)
  obtain ⟨T11, X11, e11, st11⟩ := getF X9 hx hZ hown (host := "") (Or.inl (tw hw 19 rfl)) Via.refl e9 F1_10 (g := (mkF m 67 #[rv u1, rv w1, rv u2] [(.ref u1), (.ref u1)])) rfl rfl (hb hby d5_67)
  have F1_12 : Exa Z h9 u1 "com/example/afterlog/afterlog/ListValue" := P8.wr W9
  have F1_13 : Fld Z h9 u1 "com/example/afterlog/afterlog/ListValue" "elements" "[[B" (.ref u3) := P2.other W9 (Or.inl P15)
  have F1_14 : Fld Z h9 u1 "com/example/afterlog/afterlog/ListValue" "head" "I" (.int u5) := P9.other W9 (Or.inl P15)
  obtain ⟨T15, h15, X15, e15, W15, st15⟩ := putF X11 hx hZ hown (host := "") (Or.inl (tw hw 19 rfl)) Via.refl e11 F1_10 F1_12 (Or.inl (tw hw 20 rfl)) (tw hw 2 rfl) (ty := .int) (by decide) rfl rfl (g := (mkF m 72 #[rv u1, rv w1, rv u2] [(.int 4), (.ref u1)])) rfl rfl (hb hby d5_72)
  have K15 : Keep h0 h15 [u3, u1] := K9.wr W15 (Or.inl (List.mem_of_getElem? (i := 1) rfl))
  have N15 := Fr.snoc X15 N9 P16
  have Fw15 : Fld Z h15 u1 "com/example/afterlog/afterlog/ListValue" "size" "I" (.int 4) := F1_10.same W15
  have F2_16 : Ary Z h15 u3 u4 (.array .byte) (8 : Int32) := V9.other W15 (Ne.symm P15)
  have F1_17 : Exa Z h9 u3 "[[B" := P11.wr W9
  have F2_18 : Exa Z h15 u3 "[[B" := F1_17.wr W15
  have F2_19 : Fld Z h15 u1 "com/example/afterlog/afterlog/ListValue" "elements" "[[B" (.ref u3) := F1_13.other W15 (Or.inr (slot_ne (Or.inl (tw hw 13 rfl)) (Or.inl (tw hw 20 rfl)) (by decide) (t := (.array (.array .byte))) (t' := .int) (by decide) (by decide)))
  have F2_20 : Exa Z h15 u1 "com/example/afterlog/afterlog/ListValue" := F1_12.wr W15
  have F2_21 : Fld Z h15 u1 "com/example/afterlog/afterlog/ListValue" "head" "I" (.int u5) := F1_14.other W15 (Or.inr (slot_ne (Or.inl (tw hw 40 rfl)) (Or.inl (tw hw 20 rfl)) (by decide) (t := .int) (t' := .int) (by decide) (by decide)))
  obtain ⟨fs, hr, hrun, hended, hW, hsame⟩ := X15.leave (v := none) (fun _ => rfl)
  refine ⟨_, _, pre0 _ ?_, hrun, hended, _, _, rfl, ?_, ⟨_, rfl⟩, hW, hsame.mono (by decide) (by decide)⟩
  · show SF p e below s₁ (mkF m 0 #[rv u1, rv w1, rv u2] []) _
    refine XS.aloadN X0.here hx rfl (hb hby d5_0) rfl rfl ?_
    show SF p e below s₁ (mkF m 1 #[rv u1, rv w1, rv u2] [(.ref u1)]) _
    refine st1 _ ?_
    show SF p e below T1 (mkF m 4 #[rv u1, rv w1, rv u2] [(.int 3)]) _
    refine XS.aloadN X1.here hx rfl (hb hby d5_4) rfl rfl ?_
    show SF p e below T1 (mkF m 5 #[rv u1, rv w1, rv u2] [(.ref u1), (.int 3)]) _
    refine st2 _ ?_
    show SF p e below T2 (mkF m 8 #[rv u1, rv w1, rv u2] [(.ref u3), (.int 3)]) _
    refine X2.arraylength hx (by rw [e2]; exact Ar3.1) (State.isArrayOf_alike hZ.alike Ar3.2.1) (g := (mkF m 8 #[rv u1, rv w1, rv u2] [(.ref u3), (.int 3)])) rfl rfl (hb hby d5_8) _ ?_
    rw [len_of S3 N3z]
    show SF p e below T2 (mkF m 9 #[rv u1, rv w1, rv u2] [(.int 8), (.int 3)]) _
    refine XS.icmpYes X2.here hx rfl (pc0 := 9) (pc' := 16) rfl (hb hby d5_9) rfl (feq (by decide : ¬ ((3 : Int32) = (8 : Int32)))).2 (by decide) (by decide) ?_
    show SF p e below T2 (mkF m 16 #[rv u1, rv w1, rv u2] []) _
    refine XS.aloadN X2.here hx rfl (hb hby d5_16) rfl rfl ?_
    show SF p e below T2 (mkF m 17 #[rv u1, rv w1, rv u2] [(.ref w1)]) _
    refine st4 _ ?_
    show SF p e below T4 (mkF m 20 #[rv u1, rv w1, rv u2] [(.ref w2), (.ref w1)]) _
    refine Jvm.RoadKit.acmp (g := (mkF m 20 #[rv u1, rv w1, rv u2] [(.ref w2), (.ref w1)])) X4 hx rfl rfl rfl (pc0 := 20) (pc' := 51) (same := false) rfl (hb hby d5_20) rfl (decide_eq_false fun q => (Fld.ne F_w1_ordinal F_w2_ordinal (by decide)) (Value.ref.inj q)) (by decide) (by decide) ?_
    show SF p e below T4 (mkF m 51 #[rv u1, rv w1, rv u2] []) _
    refine XS.aloadN X4.here hx rfl (hb hby d5_51) rfl rfl ?_
    show SF p e below T4 (mkF m 52 #[rv u1, rv w1, rv u2] [(.ref u1)]) _
    refine st5 _ ?_
    show SF p e below T5 (mkF m 55 #[rv u1, rv w1, rv u2] [(.ref u3)]) _
    refine XS.aloadN X5.here hx rfl (hb hby d5_55) rfl rfl ?_
    show SF p e below T5 (mkF m 56 #[rv u1, rv w1, rv u2] [(.ref u1), (.ref u3)]) _
    refine XS.aloadN X5.here hx rfl (hb hby d5_56) rfl rfl ?_
    show SF p e below T5 (mkF m 57 #[rv u1, rv w1, rv u2] [(.ref u1), (.ref u1), (.ref u3)]) _
    refine st6 _ ?_
    show SF p e below T6 (mkF m 60 #[rv u1, rv w1, rv u2] [(.int 3), (.ref u1), (.ref u3)]) _
    refine st7.trans ?_
    show SF p e below T7 (mkF m 63 #[rv u1, rv w1, rv u2] [(.int w6x), (.ref u3)]) _
    refine XS.aloadN X7.here hx rfl (hb hby d5_63) rfl rfl ?_
    show SF p e below T7 (mkF m 64 #[rv u1, rv w1, rv u2] [(.ref u2), (.int w6x), (.ref u3)]) _
    refine st9 _ ?_
    show SF p e below T9 (mkF m 65 #[rv u1, rv w1, rv u2] []) _
    refine XS.aloadN X9.here hx rfl (hb hby d5_65) rfl rfl ?_
    show SF p e below T9 (mkF m 66 #[rv u1, rv w1, rv u2] [(.ref u1)]) _
    refine XS.dup X9.here hx rfl (hb hby d5_66) rfl rfl ?_
    show SF p e below T9 (mkF m 67 #[rv u1, rv w1, rv u2] [(.ref u1), (.ref u1)]) _
    refine st11 _ ?_
    show SF p e below T11 (mkF m 70 #[rv u1, rv w1, rv u2] [(.int 3), (.ref u1)]) _
    refine XS.iconst X11.here hx rfl (hb hby d5_70) ?_
    show SF p e below T11 (mkF m 71 #[rv u1, rv w1, rv u2] [(.int 1), (.int 3), (.ref u1)]) _
    refine XS.iadd X11.here hx rfl (hb hby d5_71) rfl ?_
    show SF p e below T11 (mkF m 72 #[rv u1, rv w1, rv u2] [(.int ((3 : Int32) + (1 : Int32))), (.ref u1)]) _
    rw [show ((3 : Int32) + (1 : Int32)) = (4 : Int32) from by decide]
    show SF p e below T11 (mkF m 72 #[rv u1, rv w1, rv u2] [(.int 4), (.ref u1)]) _
    refine st15 _ ?_
    show SF p e below T15 (mkF m 75 #[rv u1, rv w1, rv u2] []) _
    exact X15.returnOut hx Bd.returns (hb hby d5_75) hr
  · show Q5_14 Z u1 w1 u2 u3 u4 w2 u5 h0 n0 _ T15.heap _
    rw [e15]
    exact ⟨rfl, N15, K15, F2_16, F2_18, Fw15, F2_19, F2_20, F2_21⟩
-- ListValueIsEmptyPinLaw.step 
def Q4_15 (Z : State) (u1 : Addr) (u2 : Int32) (u3 : Addr) (w1 : Addr) (u4 : Addr) (u5 : ClassId) (w2 : Addr) (u6 : Int32) (h0 : Heap) (n0 : Nat) (v : Option Value) (h : Heap) (L : List Loc) : Prop := v = some (.int 4) ∧ Fr n0 L ∧ Keep h0 h [u4, u1] ∧ Exa Z h u4 "[[B" ∧ Ary Z h u4 u5 (.array .byte) (8 : Int32) ∧ Exa Z h u1 "com/example/afterlog/afterlog/ListValue" ∧ Fld Z h u1 "com/example/afterlog/afterlog/ListValue" "size" "I" (.int 4) ∧ Fld Z h u1 "com/example/afterlog/afterlog/ListValue" "elements" "[[B" (.ref u4) ∧ Fld Z h u1 "com/example/afterlog/afterlog/ListValue" "head" "I" (.int u6)
set_option maxRecDepth 65536 in
set_option maxHeartbeats 40000000 in
theorem rm4_15 (l : Launch) (Z : State) (a0 : Array Value) (hw : HW Z a0) (ws : List Jvm.Cond) (u1 : Addr) (u2 : Int32) (u3 : Addr) (w1 : Addr) (u4 : Addr) (u5 : ClassId) (w2 : Addr) (u6 : Int32) (h0 : Heap) (n0 : Nat) (Z0 : n0 ≤ h0.size) (P1 : (u2 &&& (2 : Int32)) = (0 : Int32)) (Sg0 : Sta Z Z.heap "com/example/afterlog/afterlog/ListValue$End" "TAIL" "Lcom/example/afterlog/afterlog/ListValue$End;" (.ref w1)) (P3 : Old Z n0 h0) (P4 : (u2 &&& (1 : Int32)) = (0 : Int32)) (P5 : Exa Z h0 u1 "com/example/afterlog/afterlog/ListValue") (P6 : Fld Z h0 u1 "com/example/afterlog/afterlog/ListValue" "size" "I" (.int 3)) (P7 : Fld Z h0 u1 "com/example/afterlog/afterlog/ListValue" "elements" "[[B" (.ref u4)) (P8 : Ary Z h0 u4 u5 (.array .byte) (8 : Int32)) (Sg2 : Sta Z Z.heap "com/example/afterlog/afterlog/ListValue$End" "HEAD" "Lcom/example/afterlog/afterlog/ListValue$End;" (.ref w2)) (F_w1_ordinal : Fld Z Z.heap w1 "java/lang/Enum" "ordinal" "I" (.int 1)) (F_w2_ordinal : Fld Z Z.heap w2 "java/lang/Enum" "ordinal" "I" (.int 0)) (P12 : Fld Z h0 u1 "com/example/afterlog/afterlog/ListValue" "head" "I" (.int u6)) (P13 : ¬ u6 < (0 : Int32) ∧ u6 < (8 : Int32)) (P14 : Exa Z h0 u4 "[[B") (P15 : OvrA Z u5 .byte "[B") (P16 : Exa Z h0 u3 "[B") (P17 : n0 ≤ u4) (P18 : u1 ≠ u4) (P19 : n0 ≤ u1) :
    MF l Z (⟨"com/example/afterlog/afterlog/ListValueIsEmptyPinLaw", "step", "(Lcom/example/afterlog/afterlog/ListValue;II[B)I"⟩ : MethodName) (Jvm.Cond.code (⟨"com/example/afterlog/afterlog/ListValueIsEmptyPinLaw", "step", "(Lcom/example/afterlog/afterlog/ListValue;II[B)I"⟩ : MethodName) method_3_code 5 (some .int)) ws ({ frames := 2, cells := 0, slots := 0, locals := 29 } : Room) #[(.ref u1), (.int 3), (.int u2), (.ref u3)] h0 (Q4_15 Z u1 u2 u3 w1 u4 u5 w2 u6 h0 n0) := by
  refine MetFree.of_bodySF (plainFor_of_name pn_1) hisR ?_
  intro p e s m args below meth c s₁ Bd hml0 hP hK
  obtain ⟨rfl, hZ, hh⟩ := hP
  have hx := Bd.exec
  have hby := Bd.bytes
  have hml : c.maxLocals = 5 := hml0
  have hown : s.vm.findClass "com/example/afterlog/afterlog/ListValueIsEmptyPinLaw" = some m.cls := findClass_of_methodNamed Bd.named
  have hnm := (name_of_methodNamed Bd.named Bd.method).1
  have X0 : Stand p l e ({ frames := 2, cells := 0, slots := 0, locals := 29 } : Room) s m #[(.ref u1), (.int 3), (.int u2), (.ref u3)] below meth c s₁ [] 0 0 := Stand.of_body Bd
  have e0 : s₁.heap = h0 := by rw [← hh, Bd.state]; rfl
  have N0 := Fr.nil n0
  have pre0 : ∀ t, SF p e below s₁ (mkF m 0 #[rv u1, iv 3, iv u2, rv u3, .unset] []) t → SF p e below s₁ (entryFrame m #[(.ref u1), (.int 3), (.int u2), (.ref u3)] 5) t := fun t k => castTop (ef_4 m u1 (3 : Int32) u2 u3) k
  obtain ⟨T1, X1, e1, st1⟩ := getS2 X0 hx hZ hown (host := "") (Or.inl (tw hw 25 rfl)) Via.refl e0 (Sg0.ext P3.2) (g := (mkF m 12 #[rv u1, iv 3, iv u2, rv u3, .unset] [])) rfl (hb hby d4_12)
  obtain ⟨cq2, kq2, q2a, q2b, q2c⟩ := isOf hZ e1 P5
  obtain ⟨_, _, ⟨T2, L2, k2x, n2⟩, -, X2, ⟨Lc2, hQ2, l2, y2, z2⟩, st2⟩ := X1.virtualBack hx (y := (⟨"com/example/afterlog/afterlog/ListValue", "push", "(Lcom/example/afterlog/afterlog/ListValue$End;[B)V"⟩ : MethodName)) (z := (⟨"com/example/afterlog/afterlog/ListValue", "push", "(Lcom/example/afterlog/afterlog/ListValue$End;[B)V"⟩ : MethodName)) hown (mvT hZ (tw hw 28 rfl)) (mvT hZ (tw hw 29 rfl)) (notFace_of_selects (args := #[]) (mvT hZ (tw hw 31 rfl))) (mvT hZ (tw hw 31 rfl)) (mvT hZ (tw hw 30 rfl)) (by decide) (backOf (W := 0) (rm5_14 l Z a0 hw [] u1 w1 u3 u4 u5 w2 u6 h0 n0 Z0 P6 P7 P8 Sg2 P3 F_w1_ordinal F_w2_ordinal P5 P12 P13 P14 P15 P16 P17 P18 P19) hZ (tw hw 32 rfl) (tw hw 3 rfl) (by decide) (by decide)) q2a q2c (g := (mkF m 42 #[rv u1, iv 3, iv u2, rv u3, rv w1] [(.ref u3), (.ref w1), (.ref u1)])) rfl (by rw [hml]; rfl) (Steps.refl _) (argsL := [(.ref w1), (.ref u3)]) (rest := []) (lenOf pd_3 rfl) rfl (by show 2 * 0 + _ ≤ _; exact Nat.le_of_eq rfl) (hb hby d4_42) (fun _ _ => ⟨rfl, e1, (by decide : 0 + 0 ≤ _), (by decide : 0 + 0 ≤ _)⟩)
  dsimp only [Pt.U, Pt.locs, Pt.cells, Pt.slots] at X2 l2 y2 z2 st2 hQ2
  subst l2 y2 z2
  obtain ⟨rfl, N2q, K2c, Fq2_0, Fq2_1, Fq2_2, Fq2_3, Fq2_4, Fq2_5⟩ := hQ2
  have K2 : Keep h0 T2.heap [u4, u1] := (Keep.refl h0 [u4, u1]).trans K2c (allS (Or.inl (List.mem_of_getElem? (i := 0) rfl)) (allS (Or.inl (List.mem_of_getElem? (i := 1) rfl)) all0))
  have N2 := Fr.app N0 N2q
  obtain ⟨fs, hr, hrun, hended, hW, hsame⟩ := X2.leave (v := some (.int 4)) (fun h => by rw [Bd.returns] at h; cases h)
  refine ⟨_, _, pre0 _ ?_, hrun, hended, _, _, rfl, ?_, ⟨_, rfl⟩, hW, hsame.mono (by decide) (by decide)⟩
  · show SF p e below s₁ (mkF m 0 #[rv u1, iv 3, iv u2, rv u3, .unset] []) _
    refine XS.iloadN X0.here hx rfl (hb hby d4_0) rfl ?_
    show SF p e below s₁ (mkF m 1 #[rv u1, iv 3, iv u2, rv u3, .unset] [(.int u2)]) _
    refine XS.iconst X0.here hx rfl (hb hby d4_1) ?_
    show SF p e below s₁ (mkF m 2 #[rv u1, iv 3, iv u2, rv u3, .unset] [(.int 2), (.int u2)]) _
    refine XS.iand X0.here hx rfl (hb hby d4_2) rfl ?_
    show SF p e below s₁ (mkF m 3 #[rv u1, iv 3, iv u2, rv u3, .unset] [(.int (u2 &&& (2 : Int32)))]) _
    refine XS.ifYes X0.here hx rfl (pc0 := 3) (pc' := 12) rfl (hb hby d4_3) rfl ((if0 _ _).trans (teq P1).1) (by decide) (by decide) ?_
    show SF p e below s₁ (mkF m 12 #[rv u1, iv 3, iv u2, rv u3, .unset] []) _
    refine st1 _ ?_
    show SF p e below T1 (mkF m 15 #[rv u1, iv 3, iv u2, rv u3, .unset] [(.ref w1)]) _
    refine XS.astore X1.here hx rfl (hb hby d4_15) rfl rfl (l' := #[rv u1, iv 3, iv u2, rv u3, rv w1]) rfl ?_
    show SF p e below T1 (mkF m 17 #[rv u1, iv 3, iv u2, rv u3, rv w1] []) _
    refine XS.iloadN X1.here hx rfl (hb hby d4_17) rfl ?_
    show SF p e below T1 (mkF m 18 #[rv u1, iv 3, iv u2, rv u3, rv w1] [(.int u2)]) _
    refine XS.iconst X1.here hx rfl (hb hby d4_18) ?_
    show SF p e below T1 (mkF m 19 #[rv u1, iv 3, iv u2, rv u3, rv w1] [(.int 1), (.int u2)]) _
    refine XS.iand X1.here hx rfl (hb hby d4_19) rfl ?_
    show SF p e below T1 (mkF m 20 #[rv u1, iv 3, iv u2, rv u3, rv w1] [(.int (u2 &&& (1 : Int32)))]) _
    refine XS.ifYes X1.here hx rfl (pc0 := 20) (pc' := 38) rfl (hb hby d4_20) rfl ((if0 _ _).trans (teq P4).1) (by decide) (by decide) ?_
    show SF p e below T1 (mkF m 38 #[rv u1, iv 3, iv u2, rv u3, rv w1] []) _
    refine XS.aloadN X1.here hx rfl (hb hby d4_38) rfl rfl ?_
    show SF p e below T1 (mkF m 39 #[rv u1, iv 3, iv u2, rv u3, rv w1] [(.ref u1)]) _
    refine XS.aload X1.here hx rfl (hb hby d4_39) rfl rfl ?_
    show SF p e below T1 (mkF m 41 #[rv u1, iv 3, iv u2, rv u3, rv w1] [(.ref w1), (.ref u1)]) _
    refine XS.aloadN X1.here hx rfl (hb hby d4_41) rfl rfl ?_
    show SF p e below T1 (mkF m 42 #[rv u1, iv 3, iv u2, rv u3, rv w1] [(.ref u3), (.ref w1), (.ref u1)]) _
    refine st2.trans ?_
    show SF p e below T2 (mkF m 45 #[rv u1, iv 3, iv u2, rv u3, rv w1] []) _
    refine XS.iloadN X2.here hx rfl (hb hby d4_45) rfl ?_
    show SF p e below T2 (mkF m 46 #[rv u1, iv 3, iv u2, rv u3, rv w1] [(.int 3)]) _
    refine XS.iconst X2.here hx rfl (hb hby d4_46) ?_
    show SF p e below T2 (mkF m 47 #[rv u1, iv 3, iv u2, rv u3, rv w1] [(.int 1), (.int 3)]) _
    refine XS.iadd X2.here hx rfl (hb hby d4_47) rfl ?_
    show SF p e below T2 (mkF m 48 #[rv u1, iv 3, iv u2, rv u3, rv w1] [(.int ((3 : Int32) + (1 : Int32)))]) _
    rw [show ((3 : Int32) + (1 : Int32)) = (4 : Int32) from by decide]
    show SF p e below T2 (mkF m 48 #[rv u1, iv 3, iv u2, rv u3, rv w1] [(.int 4)]) _
    exact retI X2 hx Bd.returns (hb hby d4_48) hr
  · show Q4_15 Z u1 u2 u3 w1 u4 u5 w2 u6 h0 n0 _ T2.heap _
    exact ⟨rfl, N2, K2, Fq2_1, Fq2_0, Fq2_4, Fq2_2, Fq2_3, Fq2_5⟩
-- ListValue.isEmpty 
def Q3_16 (Z : State) (u1 : Addr) (h0 : Heap) (n0 : Nat) (v : Option Value) (h : Heap) (L : List Loc) : Prop := v = some (.int 0) ∧ Fr n0 L ∧ h = h0
set_option maxRecDepth 65536 in
set_option maxHeartbeats 40000000 in
theorem rm3_16 (l : Launch) (Z : State) (a0 : Array Value) (hw : HW Z a0) (ws : List Jvm.Cond) (u1 : Addr) (h0 : Heap) (n0 : Nat) (Z0 : n0 ≤ h0.size) (P1 : Fld Z h0 u1 "com/example/afterlog/afterlog/ListValue" "size" "I" (.int 4)) :
    MF l Z (⟨"com/example/afterlog/afterlog/ListValue", "isEmpty", "()Z"⟩ : MethodName) (Jvm.Cond.code (⟨"com/example/afterlog/afterlog/ListValue", "isEmpty", "()Z"⟩ : MethodName) prog_24_method_3_code 1 (some .boolean)) ws ({ frames := 0, cells := 0, slots := 0, locals := 0 } : Room) #[(.ref u1)] h0 (Q3_16 Z u1 h0 n0) := by
  refine MetFree.of_bodySF (plainFor_of_name pn_0) hisR ?_
  intro p e s m args below meth c s₁ Bd hml0 hP hK
  obtain ⟨rfl, hZ, hh⟩ := hP
  have hx := Bd.exec
  have hby := Bd.bytes
  have hml : c.maxLocals = 1 := hml0
  have hown : s.vm.findClass "com/example/afterlog/afterlog/ListValue" = some m.cls := findClass_of_methodNamed Bd.named
  have hnm := (name_of_methodNamed Bd.named Bd.method).1
  have X0 : Stand p l e ({ frames := 0, cells := 0, slots := 0, locals := 0 } : Room) s m #[(.ref u1)] below meth c s₁ [] 0 0 := Stand.of_body Bd
  have e0 : s₁.heap = h0 := by rw [← hh, Bd.state]; rfl
  have N0 := Fr.nil n0
  have pre0 : ∀ t, SF p e below s₁ (mkF m 0 #[rv u1] []) t → SF p e below s₁ (entryFrame m #[(.ref u1)] 1) t := fun t k => castTop (ef_1 m u1) k
  obtain ⟨T1, X1, e1, st1⟩ := getF X0 hx hZ hown (host := "") (Or.inl (tw hw 19 rfl)) Via.refl e0 P1 (g := (mkF m 1 #[rv u1] [(.ref u1)])) rfl rfl (hb hby d3_1)
  obtain ⟨fs, hr, hrun, hended, hW, hsame⟩ := X1.leave (v := some (.int 0)) (fun h => by rw [Bd.returns] at h; cases h)
  refine ⟨_, _, pre0 _ ?_, hrun, hended, _, _, rfl, ?_, ⟨_, rfl⟩, hW, hsame.mono (by decide) (by decide)⟩
  · show SF p e below s₁ (mkF m 0 #[rv u1] []) _
    refine XS.aloadN X0.here hx rfl (hb hby d3_0) rfl rfl ?_
    show SF p e below s₁ (mkF m 1 #[rv u1] [(.ref u1)]) _
    refine st1 _ ?_
    show SF p e below T1 (mkF m 4 #[rv u1] [(.int 4)]) _
    refine XS.ifYes X1.here hx rfl (pc0 := 4) (pc' := 11) rfl (hb hby d3_4) rfl ((if0 _ _).trans (feq (by decide : ¬ ((4 : Int32) = (0 : Int32)))).2) (by decide) (by decide) ?_
    show SF p e below T1 (mkF m 11 #[rv u1] []) _
    refine XS.iconst X1.here hx rfl (hb hby d3_11) ?_
    show SF p e below T1 (mkF m 12 #[rv u1] [(.int 0)]) _
    exact retN X1 hx (t := .boolean) Bd.returns (by simp) (hb hby d3_12) hr
  · show Q3_16 Z u1 h0 n0 _ T1.heap _
    rw [e1]
    exact ⟨rfl, N0, rfl⟩
theorem d4_23 : decode method_3_code 23 = .ok (.iload_n 1, 1) := by decide +kernel
theorem d4_24 : decode method_3_code 24 = .ok (.ifCond .le 14, 3) := by decide +kernel
theorem d4_27 : decode method_3_code 27 = .ok (.aload_n 0, 1) := by decide +kernel
theorem d4_28 : decode method_3_code 28 = .ok (.aload 4, 2) := by decide +kernel
theorem d4_30 : decode method_3_code 30 = .ok (.invokevirtual 29, 3) := by decide +kernel
theorem d7_0 : decode prog_24_method_7_code 0 = .ok (.aload_n 1, 1) := by decide +kernel
theorem d7_1 : decode prog_24_method_7_code 1 = .ok (.getstatic 37, 3) := by decide +kernel
theorem d7_4 : decode prog_24_method_7_code 4 = .ok (.if_acmp .ne 10, 3) := by decide +kernel
theorem d7_14 : decode prog_24_method_7_code 14 = .ok (.aload_n 0, 1) := by decide +kernel
theorem d7_15 : decode prog_24_method_7_code 15 = .ok (.aload_n 0, 1) := by decide +kernel
theorem d7_16 : decode prog_24_method_7_code 16 = .ok (.getfield 17, 3) := by decide +kernel
theorem d7_19 : decode prog_24_method_7_code 19 = .ok (.iconst 1, 1) := by decide +kernel
theorem d7_20 : decode prog_24_method_7_code 20 = .ok (.isub, 1) := by decide +kernel
theorem d7_21 : decode prog_24_method_7_code 21 = .ok (.invokevirtual 30, 3) := by decide +kernel
theorem d7_24 : decode prog_24_method_7_code 24 = .ok (.istore_n 2, 1) := by decide +kernel
theorem d7_25 : decode prog_24_method_7_code 25 = .ok (.aload_n 0, 1) := by decide +kernel
theorem d7_26 : decode prog_24_method_7_code 26 = .ok (.getfield 13, 3) := by decide +kernel
theorem d7_29 : decode prog_24_method_7_code 29 = .ok (.iload_n 2, 1) := by decide +kernel
theorem d7_30 : decode prog_24_method_7_code 30 = .ok (.aaload, 1) := by decide +kernel
theorem d7_31 : decode prog_24_method_7_code 31 = .ok (.astore_n 3, 1) := by decide +kernel
theorem d7_32 : decode prog_24_method_7_code 32 = .ok (.aload_n 0, 1) := by decide +kernel
theorem d7_33 : decode prog_24_method_7_code 33 = .ok (.getfield 13, 3) := by decide +kernel
theorem d7_36 : decode prog_24_method_7_code 36 = .ok (.iload_n 2, 1) := by decide +kernel
theorem d7_37 : decode prog_24_method_7_code 37 = .ok (.aconst_null, 1) := by decide +kernel
theorem d7_38 : decode prog_24_method_7_code 38 = .ok (.aastore, 1) := by decide +kernel
theorem d7_39 : decode prog_24_method_7_code 39 = .ok (.aload_n 1, 1) := by decide +kernel
theorem d7_40 : decode prog_24_method_7_code 40 = .ok (.getstatic 37, 3) := by decide +kernel
theorem d7_43 : decode prog_24_method_7_code 43 = .ok (.if_acmp .ne 12, 3) := by decide +kernel
theorem d7_55 : decode prog_24_method_7_code 55 = .ok (.aload_n 0, 1) := by decide +kernel
theorem d7_56 : decode prog_24_method_7_code 56 = .ok (.dup, 1) := by decide +kernel
theorem d7_57 : decode prog_24_method_7_code 57 = .ok (.getfield 17, 3) := by decide +kernel
theorem d7_60 : decode prog_24_method_7_code 60 = .ok (.iconst 1, 1) := by decide +kernel
theorem d7_61 : decode prog_24_method_7_code 61 = .ok (.isub, 1) := by decide +kernel
theorem d7_62 : decode prog_24_method_7_code 62 = .ok (.putfield 17, 3) := by decide +kernel
theorem d7_65 : decode prog_24_method_7_code 65 = .ok (.aload_n 3, 1) := by decide +kernel
theorem d7_66 : decode prog_24_method_7_code 66 = .ok (.areturn, 1) := by decide +kernel
theorem ef_5 (m : MethodId) (x0 : Addr) (x1 : Addr) : entryFrame m #[(.ref x0), (.ref x1)] 4 = mkF m 0 #[.val (.ref x0), .val (.ref x1), .unset, .unset] [] := by first | (simp [entryFrame, mkF, argsToLocals, Value.category]; done) | rfl
-- ListValue.pop 
def Q7_17 (Z : State) (u1 : Addr) (w1 : Addr) (w2 : Addr) (u2 : Addr) (u3 : Int32) (u4 : ClassId) (h0 : Heap) (n0 : Nat) (v : Option Value) (h : Heap) (L : List Loc) : Prop := ∃ e1x : Value, (e1x.isRef = true) ∧ v = some e1x ∧ Fr n0 L ∧ Keep h0 h [u2, u1] ∧ Ary Z h u2 u4 (.array .byte) (8 : Int32) ∧ Exa Z h u2 "[[B" ∧ Fld Z h u1 "com/example/afterlog/afterlog/ListValue" "size" "I" (.int 2) ∧ Exa Z h u1 "com/example/afterlog/afterlog/ListValue" ∧ Fld Z h u1 "com/example/afterlog/afterlog/ListValue" "elements" "[[B" (.ref u2) ∧ Fld Z h u1 "com/example/afterlog/afterlog/ListValue" "head" "I" (.int u3)
set_option maxRecDepth 65536 in
set_option maxHeartbeats 40000000 in
theorem rm7_17 (l : Launch) (Z : State) (a0 : Array Value) (hw : HW Z a0) (ws : List Jvm.Cond) (u1 : Addr) (w1 : Addr) (w2 : Addr) (u2 : Addr) (u3 : Int32) (u4 : ClassId) (h0 : Heap) (n0 : Nat) (Z0 : n0 ≤ h0.size) (Sg2 : Sta Z Z.heap "com/example/afterlog/afterlog/ListValue$End" "HEAD" "Lcom/example/afterlog/afterlog/ListValue$End;" (.ref w2)) (P2 : Old Z n0 h0) (F_w1_ordinal : Fld Z Z.heap w1 "java/lang/Enum" "ordinal" "I" (.int 1)) (F_w2_ordinal : Fld Z Z.heap w2 "java/lang/Enum" "ordinal" "I" (.int 0)) (P5 : Fld Z h0 u1 "com/example/afterlog/afterlog/ListValue" "size" "I" (.int 3)) (P6 : Exa Z h0 u1 "com/example/afterlog/afterlog/ListValue") (P7 : Fld Z h0 u1 "com/example/afterlog/afterlog/ListValue" "elements" "[[B" (.ref u2)) (P8 : Fld Z h0 u1 "com/example/afterlog/afterlog/ListValue" "head" "I" (.int u3)) (P9 : Ary Z h0 u2 u4 (.array .byte) (8 : Int32)) (P10 : ¬ u3 < (0 : Int32) ∧ u3 < (8 : Int32)) (P11 : Exa Z h0 u2 "[[B") (P12 : n0 ≤ u2) (P13 : u1 ≠ u2) (P14 : n0 ≤ u1) :
    MF l Z (⟨"com/example/afterlog/afterlog/ListValue", "pop", "(Lcom/example/afterlog/afterlog/ListValue$End;)[B"⟩ : MethodName) (Jvm.Cond.code (⟨"com/example/afterlog/afterlog/ListValue", "pop", "(Lcom/example/afterlog/afterlog/ListValue$End;)[B"⟩ : MethodName) prog_24_method_7_code 4 (some (.array .byte))) ws ({ frames := 1, cells := 0, slots := 0, locals := 14 } : Room) #[(.ref u1), (.ref w1)] h0 (Q7_17 Z u1 w1 w2 u2 u3 u4 h0 n0) := by
  refine MetFree.of_bodySF (plainFor_of_name pn_0) hisR ?_
  intro p e s m args below meth c s₁ Bd hml0 hP hK
  obtain ⟨rfl, hZ, hh⟩ := hP
  have hx := Bd.exec
  have hby := Bd.bytes
  have hml : c.maxLocals = 4 := hml0
  have hown : s.vm.findClass "com/example/afterlog/afterlog/ListValue" = some m.cls := findClass_of_methodNamed Bd.named
  have hnm := (name_of_methodNamed Bd.named Bd.method).1
  have X0 : Stand p l e ({ frames := 1, cells := 0, slots := 0, locals := 14 } : Room) s m #[(.ref u1), (.ref w1)] below meth c s₁ [] 0 0 := Stand.of_body Bd
  have e0 : s₁.heap = h0 := by rw [← hh, Bd.state]; rfl
  have N0 := Fr.nil n0
  have pre0 : ∀ t, SF p e below s₁ (mkF m 0 #[rv u1, rv w1, .unset, .unset] []) t → SF p e below s₁ (entryFrame m #[(.ref u1), (.ref w1)] 4) t := fun t k => castTop (ef_5 m u1 w1) k
  obtain ⟨T1, X1, e1, st1⟩ := getS2 X0 hx hZ hown (host := "") (Or.inl (tw hw 33 rfl)) Via.refl e0 (Sg2.ext P2.2) (g := (mkF m 1 #[rv u1, rv w1, .unset, .unset] [(.ref w1)])) rfl (hb hby d7_1)
  obtain ⟨T2, X2, e2, st2⟩ := getF X1 hx hZ hown (host := "") (Or.inl (tw hw 19 rfl)) Via.refl e1 P5 (g := (mkF m 16 #[rv u1, rv w1, .unset, .unset] [(.ref u1), (.ref u1)])) rfl rfl (hb hby d7_16)
  obtain ⟨cq3, q3, q3'⟩ := P6.cell
  obtain ⟨_, _, ⟨T3, L3, k3x, n3⟩, -, X3, ⟨Lc3, hQ3, l3, y3, z3⟩, st3⟩ := X2.privateBack hx (y := (⟨"com/example/afterlog/afterlog/ListValue", "slot", "(I)I"⟩ : MethodName)) hown (mvT hZ (tw hw 35 rfl)) (mvT hZ (tw hw 36 rfl)) (own_selP hZ (tw hw 2 rfl) (tw hw 37 rfl) (tw hw 36 rfl) (by decide)) (Cond.privateMethod_at (mvP hZ (tw hw 37 rfl) (args := #[]))) (mvT hZ (tw hw 38 rfl)) (by decide) (backOf (W := 0) (own_slot l Z a0 hw [] u1 u2 u4 u3 (2 : Int32) h0 n0 Z0 P7 P8 P9 P10 ⟨by decide, by decide⟩) hZ (tw hw 38 rfl) (tw hw 3 rfl) (by decide) (by decide)) (g := (mkF m 21 #[rv u1, rv w1, .unset, .unset] [(.int 2), (.ref u1)])) rfl (by rw [hml]; rfl) (Steps.refl _) (a := u1) (by rw [e2]; exact q3) q3' (argsL := [(.int 2)]) (rest := []) (lenOf pd_2 rfl) rfl (by show 2 * 0 + _ ≤ _; exact Nat.le_of_eq rfl) (hb hby d7_21) (fun _ _ => ⟨rfl, e2, (by decide : 0 + 0 ≤ _), (by decide : 0 + 0 ≤ _)⟩)
  dsimp only [Pt.U, Pt.locs, Pt.cells, Pt.slots] at X3 l3 y3 z3 st3 hQ3
  subst l3 y3 z3
  obtain ⟨w6x, bx_i9, rfl, N3q, e3⟩ := hQ3
  have N3 := Fr.app N0 N3q
  obtain ⟨T4, X4, e4, st4⟩ := getF X3 hx hZ hown (host := "") (Or.inl (tw hw 12 rfl)) Via.refl e3 P7 (g := (mkF m 26 #[rv u1, rv w1, iv w6x, .unset] [(.ref u1)])) rfl rfl (hb hby d7_26)
  obtain ⟨cl5, Ar5, q5, S5, N5z, H5⟩ := id P9
  have hin5 : ¬ (w6x < 0 ∨ cl5.slots.size ≤ (w6x).toNatClampNeg) := inb_of S5 ⟨(bx_i9).1, (bx_i9).2⟩
  obtain ⟨e1x, hat5, rv5⟩ := H5 (w6x).toNatClampNeg (Nat.lt_of_not_le fun y => hin5 (Or.inr y))
  obtain ⟨T6, X6, e6, st6⟩ := getF X4 hx hZ hown (host := "") (Or.inl (tw hw 12 rfl)) Via.refl e4 P7 (g := (mkF m 33 #[rv u1, rv w1, iv w6x, .val e1x] [(.ref u1)])) rfl rfl (hb hby d7_33)
  obtain ⟨cl7, Ar7, q7, S7, N7z, H7⟩ := id P9
  have hin7 : ¬ (w6x < 0 ∨ cl7.slots.size ≤ (w6x).toNatClampNeg) := inb_of S7 ⟨(bx_i9).1, (bx_i9).2⟩
  obtain ⟨T8, h8, X8, e8, W8, st8⟩ := stR X6 hx hZ e6 Ar7 (j := w6x) hin7 rfl (Or.inl rfl) (g := (mkF m 38 #[rv u1, rv w1, iv w6x, .val e1x] [.null, (.int w6x), (.ref u2)])) rfl rfl (hb hby d7_38)
  have K8 : Keep h0 h8 [u2, u1] := (Keep.refl h0 [u2, u1]).wr W8 (Or.inl (List.mem_of_getElem? (i := 0) rfl))
  have N8 := Fr.snoc X8 N3 P12
  have V8 : Ary Z h8 u2 u4 (.array .byte) (8 : Int32) := Ary.set Ar7 q7 S7 N7z H7 rfl W8
  have O8 : Old Z n0 h8 := P2.wr W8 P12
  obtain ⟨T9, X9, e9, st9⟩ := getS2 X8 hx hZ hown (host := "") (Or.inl (tw hw 33 rfl)) Via.refl e8 (Sg2.ext O8.2) (g := (mkF m 40 #[rv u1, rv w1, iv w6x, .val e1x] [(.ref w1)])) rfl (hb hby d7_40)
  have F1_10 : Fld Z h8 u1 "com/example/afterlog/afterlog/ListValue" "size" "I" (.int 3) := P5.other W8 (Or.inl P13)
  obtain ⟨T11, X11, e11, st11⟩ := getF X9 hx hZ hown (host := "") (Or.inl (tw hw 19 rfl)) Via.refl e9 F1_10 (g := (mkF m 57 #[rv u1, rv w1, iv w6x, .val e1x] [(.ref u1), (.ref u1)])) rfl rfl (hb hby d7_57)
  have F1_12 : Exa Z h8 u1 "com/example/afterlog/afterlog/ListValue" := P6.wr W8
  have F1_13 : Fld Z h8 u1 "com/example/afterlog/afterlog/ListValue" "elements" "[[B" (.ref u2) := P7.other W8 (Or.inl P13)
  have F1_14 : Fld Z h8 u1 "com/example/afterlog/afterlog/ListValue" "head" "I" (.int u3) := P8.other W8 (Or.inl P13)
  obtain ⟨T15, h15, X15, e15, W15, st15⟩ := putF X11 hx hZ hown (host := "") (Or.inl (tw hw 19 rfl)) Via.refl e11 F1_10 F1_12 (Or.inl (tw hw 20 rfl)) (tw hw 2 rfl) (ty := .int) (by decide) rfl rfl (g := (mkF m 62 #[rv u1, rv w1, iv w6x, .val e1x] [(.int 2), (.ref u1)])) rfl rfl (hb hby d7_62)
  have K15 : Keep h0 h15 [u2, u1] := K8.wr W15 (Or.inl (List.mem_of_getElem? (i := 1) rfl))
  have N15 := Fr.snoc X15 N8 P14
  have Fw15 : Fld Z h15 u1 "com/example/afterlog/afterlog/ListValue" "size" "I" (.int 2) := F1_10.same W15
  have F2_16 : Ary Z h15 u2 u4 (.array .byte) (8 : Int32) := V8.other W15 (Ne.symm P13)
  have F1_17 : Exa Z h8 u2 "[[B" := P11.wr W8
  have F2_18 : Exa Z h15 u2 "[[B" := F1_17.wr W15
  have F2_19 : Exa Z h15 u1 "com/example/afterlog/afterlog/ListValue" := F1_12.wr W15
  have F2_20 : Fld Z h15 u1 "com/example/afterlog/afterlog/ListValue" "elements" "[[B" (.ref u2) := F1_13.other W15 (Or.inr (slot_ne (Or.inl (tw hw 13 rfl)) (Or.inl (tw hw 20 rfl)) (by decide) (t := (.array (.array .byte))) (t' := .int) (by decide) (by decide)))
  have F2_21 : Fld Z h15 u1 "com/example/afterlog/afterlog/ListValue" "head" "I" (.int u3) := F1_14.other W15 (Or.inr (slot_ne (Or.inl (tw hw 40 rfl)) (Or.inl (tw hw 20 rfl)) (by decide) (t := .int) (t' := .int) (by decide) (by decide)))
  obtain ⟨fs, hr, hrun, hended, hW, hsame⟩ := X15.leave (v := some e1x) (fun h => by rw [Bd.returns] at h; cases h)
  refine ⟨_, _, pre0 _ ?_, hrun, hended, _, _, rfl, ?_, ⟨_, rfl⟩, hW, hsame.mono (by decide) (by decide)⟩
  · show SF p e below s₁ (mkF m 0 #[rv u1, rv w1, .unset, .unset] []) _
    refine XS.aloadN X0.here hx rfl (hb hby d7_0) rfl rfl ?_
    show SF p e below s₁ (mkF m 1 #[rv u1, rv w1, .unset, .unset] [(.ref w1)]) _
    refine st1 _ ?_
    show SF p e below T1 (mkF m 4 #[rv u1, rv w1, .unset, .unset] [(.ref w2), (.ref w1)]) _
    refine Jvm.RoadKit.acmp (g := (mkF m 4 #[rv u1, rv w1, .unset, .unset] [(.ref w2), (.ref w1)])) X1 hx rfl rfl rfl (pc0 := 4) (pc' := 14) (same := false) rfl (hb hby d7_4) rfl (decide_eq_false fun q => (Fld.ne F_w1_ordinal F_w2_ordinal (by decide)) (Value.ref.inj q)) (by decide) (by decide) ?_
    show SF p e below T1 (mkF m 14 #[rv u1, rv w1, .unset, .unset] []) _
    refine XS.aloadN X1.here hx rfl (hb hby d7_14) rfl rfl ?_
    show SF p e below T1 (mkF m 15 #[rv u1, rv w1, .unset, .unset] [(.ref u1)]) _
    refine XS.aloadN X1.here hx rfl (hb hby d7_15) rfl rfl ?_
    show SF p e below T1 (mkF m 16 #[rv u1, rv w1, .unset, .unset] [(.ref u1), (.ref u1)]) _
    refine st2 _ ?_
    show SF p e below T2 (mkF m 19 #[rv u1, rv w1, .unset, .unset] [(.int 3), (.ref u1)]) _
    refine XS.iconst X2.here hx rfl (hb hby d7_19) ?_
    show SF p e below T2 (mkF m 20 #[rv u1, rv w1, .unset, .unset] [(.int 1), (.int 3), (.ref u1)]) _
    refine XS.isub X2.here hx rfl (hb hby d7_20) rfl ?_
    show SF p e below T2 (mkF m 21 #[rv u1, rv w1, .unset, .unset] [(.int ((3 : Int32) - (1 : Int32))), (.ref u1)]) _
    rw [show ((3 : Int32) - (1 : Int32)) = (2 : Int32) from by decide]
    show SF p e below T2 (mkF m 21 #[rv u1, rv w1, .unset, .unset] [(.int 2), (.ref u1)]) _
    refine st3.trans ?_
    show SF p e below T3 (mkF m 24 #[rv u1, rv w1, .unset, .unset] [(.int w6x)]) _
    refine XS.istoreN X3.here hx rfl (hb hby d7_24) rfl (l' := #[rv u1, rv w1, iv w6x, .unset]) rfl ?_
    show SF p e below T3 (mkF m 25 #[rv u1, rv w1, iv w6x, .unset] []) _
    refine XS.aloadN X3.here hx rfl (hb hby d7_25) rfl rfl ?_
    show SF p e below T3 (mkF m 26 #[rv u1, rv w1, iv w6x, .unset] [(.ref u1)]) _
    refine st4 _ ?_
    show SF p e below T4 (mkF m 29 #[rv u1, rv w1, iv w6x, .unset] [(.ref u2)]) _
    refine XS.iloadN X4.here hx rfl (hb hby d7_29) rfl ?_
    show SF p e below T4 (mkF m 30 #[rv u1, rv w1, iv w6x, .unset] [(.int w6x), (.ref u2)]) _
    refine X4.aaload hx (j := w6x) (v := e1x) (by rw [e4]; exact Ar5.1) (State.isArrayOf_alike hZ.alike Ar5.2.1) rfl Ar5.2.2 hin5 hat5 (g := (mkF m 30 #[rv u1, rv w1, iv w6x, .unset] [(.int w6x), (.ref u2)])) rfl rfl (hb hby d7_30) _ ?_
    show SF p e below T4 (mkF m 31 #[rv u1, rv w1, iv w6x, .unset] [e1x]) _
    refine XS.astoreN X4.here hx rfl (hb hby d7_31) rfl rv5 (l' := #[rv u1, rv w1, iv w6x, .val e1x]) (by rcases ref_cases rv5 with h | ⟨_, h⟩ <;> subst h <;> rfl) ?_
    show SF p e below T4 (mkF m 32 #[rv u1, rv w1, iv w6x, .val e1x] []) _
    refine XS.aloadN X4.here hx rfl (hb hby d7_32) rfl rfl ?_
    show SF p e below T4 (mkF m 33 #[rv u1, rv w1, iv w6x, .val e1x] [(.ref u1)]) _
    refine st6 _ ?_
    show SF p e below T6 (mkF m 36 #[rv u1, rv w1, iv w6x, .val e1x] [(.ref u2)]) _
    refine XS.iloadN X6.here hx rfl (hb hby d7_36) rfl ?_
    show SF p e below T6 (mkF m 37 #[rv u1, rv w1, iv w6x, .val e1x] [(.int w6x), (.ref u2)]) _
    refine XS.aconstNull X6.here hx rfl (hb hby d7_37) ?_
    show SF p e below T6 (mkF m 38 #[rv u1, rv w1, iv w6x, .val e1x] [.null, (.int w6x), (.ref u2)]) _
    refine st8 _ ?_
    show SF p e below T8 (mkF m 39 #[rv u1, rv w1, iv w6x, .val e1x] []) _
    refine XS.aloadN X8.here hx rfl (hb hby d7_39) rfl rfl ?_
    show SF p e below T8 (mkF m 40 #[rv u1, rv w1, iv w6x, .val e1x] [(.ref w1)]) _
    refine st9 _ ?_
    show SF p e below T9 (mkF m 43 #[rv u1, rv w1, iv w6x, .val e1x] [(.ref w2), (.ref w1)]) _
    refine Jvm.RoadKit.acmp (g := (mkF m 43 #[rv u1, rv w1, iv w6x, .val e1x] [(.ref w2), (.ref w1)])) X9 hx rfl rfl rfl (pc0 := 43) (pc' := 55) (same := false) rfl (hb hby d7_43) rfl (decide_eq_false fun q => (Fld.ne F_w1_ordinal F_w2_ordinal (by decide)) (Value.ref.inj q)) (by decide) (by decide) ?_
    show SF p e below T9 (mkF m 55 #[rv u1, rv w1, iv w6x, .val e1x] []) _
    refine XS.aloadN X9.here hx rfl (hb hby d7_55) rfl rfl ?_
    show SF p e below T9 (mkF m 56 #[rv u1, rv w1, iv w6x, .val e1x] [(.ref u1)]) _
    refine XS.dup X9.here hx rfl (hb hby d7_56) rfl rfl ?_
    show SF p e below T9 (mkF m 57 #[rv u1, rv w1, iv w6x, .val e1x] [(.ref u1), (.ref u1)]) _
    refine st11 _ ?_
    show SF p e below T11 (mkF m 60 #[rv u1, rv w1, iv w6x, .val e1x] [(.int 3), (.ref u1)]) _
    refine XS.iconst X11.here hx rfl (hb hby d7_60) ?_
    show SF p e below T11 (mkF m 61 #[rv u1, rv w1, iv w6x, .val e1x] [(.int 1), (.int 3), (.ref u1)]) _
    refine XS.isub X11.here hx rfl (hb hby d7_61) rfl ?_
    show SF p e below T11 (mkF m 62 #[rv u1, rv w1, iv w6x, .val e1x] [(.int ((3 : Int32) - (1 : Int32))), (.ref u1)]) _
    rw [show ((3 : Int32) - (1 : Int32)) = (2 : Int32) from by decide]
    show SF p e below T11 (mkF m 62 #[rv u1, rv w1, iv w6x, .val e1x] [(.int 2), (.ref u1)]) _
    refine st15 _ ?_
    show SF p e below T15 (mkF m 65 #[rv u1, rv w1, iv w6x, .val e1x] []) _
    refine XS.aloadN X15.here hx rfl (hb hby d7_65) rfl rv5 ?_
    show SF p e below T15 (mkF m 66 #[rv u1, rv w1, iv w6x, .val e1x] [e1x]) _
    exact own_retR X15 hx Bd.returns rfl rv5 (hb hby d7_66) hr
  · show Q7_17 Z u1 w1 w2 u2 u3 u4 h0 n0 _ T15.heap _
    rw [e15]
    exact ⟨e1x, rv5, rfl, N15, K15, F2_16, F2_18, Fw15, F2_19, F2_20, F2_21⟩
theorem pd_5 : parseMethodDescriptor "(Lcom/example/afterlog/afterlog/ListValue$End;)[B" = some ⟨[(.object "com/example/afterlog/afterlog/ListValue$End")], some (.array .byte)⟩ := by decide +kernel
theorem d4_33 : decode method_3_code 33 = .ok (.pop, 1) := by decide +kernel
theorem d4_34 : decode method_3_code 34 = .ok (.iload_n 1, 1) := by decide +kernel
theorem d4_35 : decode method_3_code 35 = .ok (.iconst 1, 1) := by decide +kernel
theorem d4_36 : decode method_3_code 36 = .ok (.isub, 1) := by decide +kernel
theorem d4_37 : decode method_3_code 37 = .ok (.ireturn, 1) := by decide +kernel
-- ListValueIsEmptyPinLaw.step 
def Q4_18 (Z : State) (u1 : Addr) (u2 : Int32) (u3 : Addr) (w1 : Addr) (w2 : Addr) (u4 : Addr) (u5 : Int32) (u6 : ClassId) (h0 : Heap) (n0 : Nat) (v : Option Value) (h : Heap) (L : List Loc) : Prop := v = some (.int 2) ∧ Fr n0 L ∧ Keep h0 h [u4, u1] ∧ Exa Z h u4 "[[B" ∧ Ary Z h u4 u6 (.array .byte) (8 : Int32) ∧ Exa Z h u1 "com/example/afterlog/afterlog/ListValue" ∧ Fld Z h u1 "com/example/afterlog/afterlog/ListValue" "size" "I" (.int 2) ∧ Fld Z h u1 "com/example/afterlog/afterlog/ListValue" "elements" "[[B" (.ref u4) ∧ Fld Z h u1 "com/example/afterlog/afterlog/ListValue" "head" "I" (.int u5)
set_option maxRecDepth 65536 in
set_option maxHeartbeats 40000000 in
theorem rm4_18 (l : Launch) (Z : State) (a0 : Array Value) (hw : HW Z a0) (ws : List Jvm.Cond) (u1 : Addr) (u2 : Int32) (u3 : Addr) (w1 : Addr) (w2 : Addr) (u4 : Addr) (u5 : Int32) (u6 : ClassId) (h0 : Heap) (n0 : Nat) (Z0 : n0 ≤ h0.size) (P1 : (u2 &&& (2 : Int32)) = (0 : Int32)) (Sg0 : Sta Z Z.heap "com/example/afterlog/afterlog/ListValue$End" "TAIL" "Lcom/example/afterlog/afterlog/ListValue$End;" (.ref w1)) (P3 : Old Z n0 h0) (P4 : ¬ ((u2 &&& (1 : Int32)) = (0 : Int32))) (P5 : Exa Z h0 u1 "com/example/afterlog/afterlog/ListValue") (Sg2 : Sta Z Z.heap "com/example/afterlog/afterlog/ListValue$End" "HEAD" "Lcom/example/afterlog/afterlog/ListValue$End;" (.ref w2)) (F_w1_ordinal : Fld Z Z.heap w1 "java/lang/Enum" "ordinal" "I" (.int 1)) (F_w2_ordinal : Fld Z Z.heap w2 "java/lang/Enum" "ordinal" "I" (.int 0)) (P9 : Fld Z h0 u1 "com/example/afterlog/afterlog/ListValue" "size" "I" (.int 3)) (P10 : Fld Z h0 u1 "com/example/afterlog/afterlog/ListValue" "elements" "[[B" (.ref u4)) (P11 : Fld Z h0 u1 "com/example/afterlog/afterlog/ListValue" "head" "I" (.int u5)) (P12 : Ary Z h0 u4 u6 (.array .byte) (8 : Int32)) (P13 : ¬ u5 < (0 : Int32) ∧ u5 < (8 : Int32)) (P14 : Exa Z h0 u4 "[[B") (P15 : n0 ≤ u4) (P16 : u1 ≠ u4) (P17 : n0 ≤ u1) :
    MF l Z (⟨"com/example/afterlog/afterlog/ListValueIsEmptyPinLaw", "step", "(Lcom/example/afterlog/afterlog/ListValue;II[B)I"⟩ : MethodName) (Jvm.Cond.code (⟨"com/example/afterlog/afterlog/ListValueIsEmptyPinLaw", "step", "(Lcom/example/afterlog/afterlog/ListValue;II[B)I"⟩ : MethodName) method_3_code 5 (some .int)) ws ({ frames := 2, cells := 0, slots := 0, locals := 29 } : Room) #[(.ref u1), (.int 3), (.int u2), (.ref u3)] h0 (Q4_18 Z u1 u2 u3 w1 w2 u4 u5 u6 h0 n0) := by
  refine MetFree.of_bodySF (plainFor_of_name pn_1) hisR ?_
  intro p e s m args below meth c s₁ Bd hml0 hP hK
  obtain ⟨rfl, hZ, hh⟩ := hP
  have hx := Bd.exec
  have hby := Bd.bytes
  have hml : c.maxLocals = 5 := hml0
  have hown : s.vm.findClass "com/example/afterlog/afterlog/ListValueIsEmptyPinLaw" = some m.cls := findClass_of_methodNamed Bd.named
  have hnm := (name_of_methodNamed Bd.named Bd.method).1
  have X0 : Stand p l e ({ frames := 2, cells := 0, slots := 0, locals := 29 } : Room) s m #[(.ref u1), (.int 3), (.int u2), (.ref u3)] below meth c s₁ [] 0 0 := Stand.of_body Bd
  have e0 : s₁.heap = h0 := by rw [← hh, Bd.state]; rfl
  have N0 := Fr.nil n0
  have pre0 : ∀ t, SF p e below s₁ (mkF m 0 #[rv u1, iv 3, iv u2, rv u3, .unset] []) t → SF p e below s₁ (entryFrame m #[(.ref u1), (.int 3), (.int u2), (.ref u3)] 5) t := fun t k => castTop (ef_4 m u1 (3 : Int32) u2 u3) k
  obtain ⟨T1, X1, e1, st1⟩ := getS2 X0 hx hZ hown (host := "") (Or.inl (tw hw 25 rfl)) Via.refl e0 (Sg0.ext P3.2) (g := (mkF m 12 #[rv u1, iv 3, iv u2, rv u3, .unset] [])) rfl (hb hby d4_12)
  obtain ⟨cq2, kq2, q2a, q2b, q2c⟩ := isOf hZ e1 P5
  obtain ⟨_, _, ⟨T2, L2, k2x, n2⟩, -, X2, ⟨Lc2, hQ2, l2, y2, z2⟩, st2⟩ := X1.virtualBack hx (y := (⟨"com/example/afterlog/afterlog/ListValue", "pop", "(Lcom/example/afterlog/afterlog/ListValue$End;)[B"⟩ : MethodName)) (z := (⟨"com/example/afterlog/afterlog/ListValue", "pop", "(Lcom/example/afterlog/afterlog/ListValue$End;)[B"⟩ : MethodName)) hown (mvT hZ (tw hw 43 rfl)) (mvT hZ (tw hw 44 rfl)) (notFace_of_selects (args := #[]) (mvT hZ (tw hw 46 rfl))) (mvT hZ (tw hw 46 rfl)) (mvT hZ (tw hw 45 rfl)) (by decide) (backOf (W := 0) (rm7_17 l Z a0 hw [] u1 w1 w2 u4 u5 u6 h0 n0 Z0 Sg2 P3 F_w1_ordinal F_w2_ordinal P9 P5 P10 P11 P12 P13 P14 P15 P16 P17) hZ (tw hw 47 rfl) (tw hw 3 rfl) (by decide) (by decide)) q2a q2c (g := (mkF m 30 #[rv u1, iv 3, iv u2, rv u3, rv w1] [(.ref w1), (.ref u1)])) rfl (by rw [hml]; rfl) (Steps.refl _) (argsL := [(.ref w1)]) (rest := []) (lenOf pd_5 rfl) rfl (by show 2 * 0 + _ ≤ _; exact Nat.le_of_eq rfl) (hb hby d4_30) (fun _ _ => ⟨rfl, e1, (by decide : 0 + 0 ≤ _), (by decide : 0 + 0 ≤ _)⟩)
  dsimp only [Pt.U, Pt.locs, Pt.cells, Pt.slots] at X2 l2 y2 z2 st2 hQ2
  subst l2 y2 z2
  obtain ⟨w7x, bx_vx11, rfl, N2q, K2c, Fq2_0, Fq2_1, Fq2_2, Fq2_3, Fq2_4, Fq2_5⟩ := hQ2
  have K2 : Keep h0 T2.heap [u4, u1] := (Keep.refl h0 [u4, u1]).trans K2c (allS (Or.inl (List.mem_of_getElem? (i := 0) rfl)) (allS (Or.inl (List.mem_of_getElem? (i := 1) rfl)) all0))
  have N2 := Fr.app N0 N2q
  obtain ⟨fs, hr, hrun, hended, hW, hsame⟩ := X2.leave (v := some (.int 2)) (fun h => by rw [Bd.returns] at h; cases h)
  refine ⟨_, _, pre0 _ ?_, hrun, hended, _, _, rfl, ?_, ⟨_, rfl⟩, hW, hsame.mono (by decide) (by decide)⟩
  · show SF p e below s₁ (mkF m 0 #[rv u1, iv 3, iv u2, rv u3, .unset] []) _
    refine XS.iloadN X0.here hx rfl (hb hby d4_0) rfl ?_
    show SF p e below s₁ (mkF m 1 #[rv u1, iv 3, iv u2, rv u3, .unset] [(.int u2)]) _
    refine XS.iconst X0.here hx rfl (hb hby d4_1) ?_
    show SF p e below s₁ (mkF m 2 #[rv u1, iv 3, iv u2, rv u3, .unset] [(.int 2), (.int u2)]) _
    refine XS.iand X0.here hx rfl (hb hby d4_2) rfl ?_
    show SF p e below s₁ (mkF m 3 #[rv u1, iv 3, iv u2, rv u3, .unset] [(.int (u2 &&& (2 : Int32)))]) _
    refine XS.ifYes X0.here hx rfl (pc0 := 3) (pc' := 12) rfl (hb hby d4_3) rfl ((if0 _ _).trans (teq P1).1) (by decide) (by decide) ?_
    show SF p e below s₁ (mkF m 12 #[rv u1, iv 3, iv u2, rv u3, .unset] []) _
    refine st1 _ ?_
    show SF p e below T1 (mkF m 15 #[rv u1, iv 3, iv u2, rv u3, .unset] [(.ref w1)]) _
    refine XS.astore X1.here hx rfl (hb hby d4_15) rfl rfl (l' := #[rv u1, iv 3, iv u2, rv u3, rv w1]) rfl ?_
    show SF p e below T1 (mkF m 17 #[rv u1, iv 3, iv u2, rv u3, rv w1] []) _
    refine XS.iloadN X1.here hx rfl (hb hby d4_17) rfl ?_
    show SF p e below T1 (mkF m 18 #[rv u1, iv 3, iv u2, rv u3, rv w1] [(.int u2)]) _
    refine XS.iconst X1.here hx rfl (hb hby d4_18) ?_
    show SF p e below T1 (mkF m 19 #[rv u1, iv 3, iv u2, rv u3, rv w1] [(.int 1), (.int u2)]) _
    refine XS.iand X1.here hx rfl (hb hby d4_19) rfl ?_
    show SF p e below T1 (mkF m 20 #[rv u1, iv 3, iv u2, rv u3, rv w1] [(.int (u2 &&& (1 : Int32)))]) _
    refine XS.ifNo X1.here hx rfl (hb hby d4_20) rfl ((if0 _ _).trans (feq P4).1) ?_
    show SF p e below T1 (mkF m 23 #[rv u1, iv 3, iv u2, rv u3, rv w1] []) _
    refine XS.iloadN X1.here hx rfl (hb hby d4_23) rfl ?_
    show SF p e below T1 (mkF m 24 #[rv u1, iv 3, iv u2, rv u3, rv w1] [(.int 3)]) _
    refine XS.ifNo X1.here hx rfl (hb hby d4_24) rfl ((if0 _ _).trans (tlt (by decide : (0 : Int32) < (3 : Int32))).2.2.2) ?_
    show SF p e below T1 (mkF m 27 #[rv u1, iv 3, iv u2, rv u3, rv w1] []) _
    refine XS.aloadN X1.here hx rfl (hb hby d4_27) rfl rfl ?_
    show SF p e below T1 (mkF m 28 #[rv u1, iv 3, iv u2, rv u3, rv w1] [(.ref u1)]) _
    refine XS.aload X1.here hx rfl (hb hby d4_28) rfl rfl ?_
    show SF p e below T1 (mkF m 30 #[rv u1, iv 3, iv u2, rv u3, rv w1] [(.ref w1), (.ref u1)]) _
    refine st2.trans ?_
    show SF p e below T2 (mkF m 33 #[rv u1, iv 3, iv u2, rv u3, rv w1] [w7x]) _
    refine XS.pop X2.here hx rfl (hb hby d4_33) rfl (by rcases ref_cases bx_vx11 with h | ⟨_, h⟩ <;> subst h <;> rfl) ?_
    show SF p e below T2 (mkF m 34 #[rv u1, iv 3, iv u2, rv u3, rv w1] []) _
    refine XS.iloadN X2.here hx rfl (hb hby d4_34) rfl ?_
    show SF p e below T2 (mkF m 35 #[rv u1, iv 3, iv u2, rv u3, rv w1] [(.int 3)]) _
    refine XS.iconst X2.here hx rfl (hb hby d4_35) ?_
    show SF p e below T2 (mkF m 36 #[rv u1, iv 3, iv u2, rv u3, rv w1] [(.int 1), (.int 3)]) _
    refine XS.isub X2.here hx rfl (hb hby d4_36) rfl ?_
    show SF p e below T2 (mkF m 37 #[rv u1, iv 3, iv u2, rv u3, rv w1] [(.int ((3 : Int32) - (1 : Int32)))]) _
    rw [show ((3 : Int32) - (1 : Int32)) = (2 : Int32) from by decide]
    show SF p e below T2 (mkF m 37 #[rv u1, iv 3, iv u2, rv u3, rv w1] [(.int 2)]) _
    exact retI X2 hx Bd.returns (hb hby d4_37) hr
  · show Q4_18 Z u1 u2 u3 w1 w2 u4 u5 u6 h0 n0 _ T2.heap _
    exact ⟨rfl, N2, K2, Fq2_1, Fq2_0, Fq2_3, Fq2_2, Fq2_4, Fq2_5⟩
theorem d4_6 : decode method_3_code 6 = .ok (.getstatic 20, 3) := by decide +kernel
theorem d4_9 : decode method_3_code 9 = .ok (.goto 6, 3) := by decide +kernel
theorem d5_23 : decode prog_24_method_6_code 23 = .ok (.aload_n 0, 1) := by decide +kernel
theorem d5_24 : decode prog_24_method_6_code 24 = .ok (.aload_n 0, 1) := by decide +kernel
theorem d5_25 : decode prog_24_method_6_code 25 = .ok (.aload_n 0, 1) := by decide +kernel
theorem d5_26 : decode prog_24_method_6_code 26 = .ok (.getfield 13, 3) := by decide +kernel
theorem d5_29 : decode prog_24_method_6_code 29 = .ok (.arraylength, 1) := by decide +kernel
theorem d5_30 : decode prog_24_method_6_code 30 = .ok (.iconst 1, 1) := by decide +kernel
theorem d5_31 : decode prog_24_method_6_code 31 = .ok (.isub, 1) := by decide +kernel
theorem d5_32 : decode prog_24_method_6_code 32 = .ok (.invokevirtual 30, 3) := by decide +kernel
theorem d5_35 : decode prog_24_method_6_code 35 = .ok (.putfield 27, 3) := by decide +kernel
theorem d5_38 : decode prog_24_method_6_code 38 = .ok (.aload_n 0, 1) := by decide +kernel
theorem d5_39 : decode prog_24_method_6_code 39 = .ok (.getfield 13, 3) := by decide +kernel
theorem d5_42 : decode prog_24_method_6_code 42 = .ok (.aload_n 0, 1) := by decide +kernel
theorem d5_43 : decode prog_24_method_6_code 43 = .ok (.getfield 27, 3) := by decide +kernel
theorem d5_46 : decode prog_24_method_6_code 46 = .ok (.aload_n 2, 1) := by decide +kernel
theorem d5_47 : decode prog_24_method_6_code 47 = .ok (.aastore, 1) := by decide +kernel
theorem d5_48 : decode prog_24_method_6_code 48 = .ok (.goto 17, 3) := by decide +kernel
-- ListValue.push 
def Q5_19 (Z : State) (u1 : Addr) (w2 : Addr) (u2 : Addr) (u3 : Addr) (u4 : ClassId) (u5 : Int32) (h0 : Heap) (n0 : Nat) (v : Option Value) (h : Heap) (L : List Loc) : Prop := ∃ e1x : Int32, (¬ e1x < (0 : Int32) ∧ e1x < (8 : Int32)) ∧ v = none ∧ Fr n0 L ∧ Keep h0 h [u1, u3] ∧ Fld Z h u1 "com/example/afterlog/afterlog/ListValue" "size" "I" (.int 4) ∧ Fld Z h u1 "com/example/afterlog/afterlog/ListValue" "elements" "[[B" (.ref u3) ∧ Exa Z h u1 "com/example/afterlog/afterlog/ListValue" ∧ Fld Z h u1 "com/example/afterlog/afterlog/ListValue" "head" "I" (.int e1x) ∧ Ary Z h u3 u4 (.array .byte) (8 : Int32) ∧ Exa Z h u3 "[[B"
set_option maxRecDepth 65536 in
set_option maxHeartbeats 40000000 in
theorem rm5_19 (l : Launch) (Z : State) (a0 : Array Value) (hw : HW Z a0) (ws : List Jvm.Cond) (u1 : Addr) (w2 : Addr) (u2 : Addr) (u3 : Addr) (u4 : ClassId) (u5 : Int32) (h0 : Heap) (n0 : Nat) (Z0 : n0 ≤ h0.size) (P1 : Fld Z h0 u1 "com/example/afterlog/afterlog/ListValue" "size" "I" (.int 3)) (P2 : Fld Z h0 u1 "com/example/afterlog/afterlog/ListValue" "elements" "[[B" (.ref u3)) (P3 : Ary Z h0 u3 u4 (.array .byte) (8 : Int32)) (Sg2 : Sta Z Z.heap "com/example/afterlog/afterlog/ListValue$End" "HEAD" "Lcom/example/afterlog/afterlog/ListValue$End;" (.ref w2)) (P5 : Old Z n0 h0) (P6 : Exa Z h0 u1 "com/example/afterlog/afterlog/ListValue") (P7 : Fld Z h0 u1 "com/example/afterlog/afterlog/ListValue" "head" "I" (.int u5)) (P8 : ¬ u5 < (0 : Int32) ∧ u5 < (8 : Int32)) (P9 : n0 ≤ u1) (P10 : Exa Z h0 u3 "[[B") (P11 : u3 ≠ u1) (P12 : OvrA Z u4 .byte "[B") (P13 : Exa Z h0 u2 "[B") (P14 : n0 ≤ u3) :
    MF l Z (⟨"com/example/afterlog/afterlog/ListValue", "push", "(Lcom/example/afterlog/afterlog/ListValue$End;[B)V"⟩ : MethodName) (Jvm.Cond.code (⟨"com/example/afterlog/afterlog/ListValue", "push", "(Lcom/example/afterlog/afterlog/ListValue$End;[B)V"⟩ : MethodName) prog_24_method_6_code 3 none) ws ({ frames := 1, cells := 0, slots := 0, locals := 15 } : Room) #[(.ref u1), (.ref w2), (.ref u2)] h0 (Q5_19 Z u1 w2 u2 u3 u4 u5 h0 n0) := by
  refine MetFree.of_bodySF (plainFor_of_name pn_0) hisR ?_
  intro p e s m args below meth c s₁ Bd hml0 hP hK
  obtain ⟨rfl, hZ, hh⟩ := hP
  have hx := Bd.exec
  have hby := Bd.bytes
  have hml : c.maxLocals = 3 := hml0
  have hown : s.vm.findClass "com/example/afterlog/afterlog/ListValue" = some m.cls := findClass_of_methodNamed Bd.named
  have hnm := (name_of_methodNamed Bd.named Bd.method).1
  have X0 : Stand p l e ({ frames := 1, cells := 0, slots := 0, locals := 15 } : Room) s m #[(.ref u1), (.ref w2), (.ref u2)] below meth c s₁ [] 0 0 := Stand.of_body Bd
  have e0 : s₁.heap = h0 := by rw [← hh, Bd.state]; rfl
  have N0 := Fr.nil n0
  have pre0 : ∀ t, SF p e below s₁ (mkF m 0 #[rv u1, rv w2, rv u2] []) t → SF p e below s₁ (entryFrame m #[(.ref u1), (.ref w2), (.ref u2)] 3) t := fun t k => castTop (ef_3 m u1 w2 u2) k
  obtain ⟨T1, X1, e1, st1⟩ := getF X0 hx hZ hown (host := "") (Or.inl (tw hw 19 rfl)) Via.refl e0 P1 (g := (mkF m 1 #[rv u1, rv w2, rv u2] [(.ref u1)])) rfl rfl (hb hby d5_1)
  obtain ⟨T2, X2, e2, st2⟩ := getF X1 hx hZ hown (host := "") (Or.inl (tw hw 12 rfl)) Via.refl e1 P2 (g := (mkF m 5 #[rv u1, rv w2, rv u2] [(.ref u1), (.int 3)])) rfl rfl (hb hby d5_5)
  obtain ⟨cl3, Ar3, q3, S3, N3z, H3⟩ := id P3
  obtain ⟨T4, X4, e4, st4⟩ := getS2 X2 hx hZ hown (host := "") (Or.inl (tw hw 33 rfl)) Via.refl e2 (Sg2.ext P5.2) (g := (mkF m 17 #[rv u1, rv w2, rv u2] [(.ref w2)])) rfl (hb hby d5_17)
  obtain ⟨T5, X5, e5, st5⟩ := getF X4 hx hZ hown (host := "") (Or.inl (tw hw 12 rfl)) Via.refl e4 P2 (g := (mkF m 26 #[rv u1, rv w2, rv u2] [(.ref u1), (.ref u1), (.ref u1)])) rfl rfl (hb hby d5_26)
  obtain ⟨cl6, Ar6, q6, S6, N6z, H6⟩ := id P3
  obtain ⟨cq7, q7, q7'⟩ := P6.cell
  obtain ⟨_, _, ⟨T7, L7, k7x, n7⟩, -, X7, ⟨Lc7, hQ7, l7, y7, z7⟩, st7⟩ := X5.privateBack hx (y := (⟨"com/example/afterlog/afterlog/ListValue", "slot", "(I)I"⟩ : MethodName)) hown (mvT hZ (tw hw 35 rfl)) (mvT hZ (tw hw 36 rfl)) (own_selP hZ (tw hw 2 rfl) (tw hw 37 rfl) (tw hw 36 rfl) (by decide)) (Cond.privateMethod_at (mvP hZ (tw hw 37 rfl) (args := #[]))) (mvT hZ (tw hw 38 rfl)) (by decide) (backOf (W := 1) (own_slot l Z a0 hw [] u1 u3 u4 u5 (7 : Int32) h0 n0 Z0 P2 P7 P3 P8 ⟨by decide, by decide⟩) hZ (tw hw 38 rfl) (tw hw 3 rfl) (by decide) (by decide)) (g := (mkF m 32 #[rv u1, rv w2, rv u2] [(.int 7), (.ref u1), (.ref u1)])) rfl (by rw [hml]; rfl) (Steps.refl _) (a := u1) (by rw [e5]; exact q7) q7' (argsL := [(.int 7)]) (rest := [(.ref u1)]) (lenOf pd_2 rfl) rfl (by show 2 * 0 + _ ≤ _; exact Nat.le_of_eq rfl) (hb hby d5_32) (fun _ _ => ⟨rfl, e5, (by decide : 0 + 0 ≤ _), (by decide : 0 + 0 ≤ _)⟩)
  dsimp only [Pt.U, Pt.locs, Pt.cells, Pt.slots] at X7 l7 y7 z7 st7 hQ7
  subst l7 y7 z7
  obtain ⟨e1x, bx_i9, rfl, N7q, e7⟩ := hQ7
  have N7 := Fr.app N0 N7q
  obtain ⟨T8, h8, X8, e8, W8, st8⟩ := putF X7 hx hZ hown (host := "") (Or.inl (tw hw 39 rfl)) Via.refl e7 P7 P6 (Or.inl (tw hw 40 rfl)) (tw hw 2 rfl) (ty := .int) (by decide) rfl rfl (g := (mkF m 35 #[rv u1, rv w2, rv u2] [(.int e1x), (.ref u1)])) rfl rfl (hb hby d5_35)
  have K8 : Keep h0 h8 [u1, u3] := (Keep.refl h0 [u1, u3]).wr W8 (Or.inl (List.mem_of_getElem? (i := 0) rfl))
  have N8 := Fr.snoc X8 N7 P9
  have Fw8 : Fld Z h8 u1 "com/example/afterlog/afterlog/ListValue" "head" "I" (.int e1x) := P7.same W8
  have F1_9 : Fld Z h8 u1 "com/example/afterlog/afterlog/ListValue" "elements" "[[B" (.ref u3) := P2.other W8 (Or.inr (slot_ne (Or.inl (tw hw 13 rfl)) (Or.inl (tw hw 40 rfl)) (by decide) (t := (.array (.array .byte))) (t' := .int) (by decide) (by decide)))
  obtain ⟨T10, X10, e10, st10⟩ := getF X8 hx hZ hown (host := "") (Or.inl (tw hw 12 rfl)) Via.refl e8 F1_9 (g := (mkF m 39 #[rv u1, rv w2, rv u2] [(.ref u1)])) rfl rfl (hb hby d5_39)
  obtain ⟨T11, X11, e11, st11⟩ := getF X10 hx hZ hown (host := "") (Or.inl (tw hw 39 rfl)) Via.refl e10 Fw8 (g := (mkF m 43 #[rv u1, rv w2, rv u2] [(.ref u1), (.ref u3)])) rfl rfl (hb hby d5_43)
  have F1_12 : Exa Z h8 u3 "[[B" := P10.wr W8
  have F1_13 : Ary Z h8 u3 u4 (.array .byte) (8 : Int32) := P3.other W8 P11
  obtain ⟨cl14, Ar14, q14, S14, N14z, H14⟩ := id F1_13
  have hin14 : ¬ (e1x < 0 ∨ cl14.slots.size ≤ (e1x).toNatClampNeg) := inb_of S14 ⟨(bx_i9).1, (bx_i9).2⟩
  have F1_15 : Exa Z h8 u2 "[B" := P13.wr W8
  obtain ⟨T16, h16, X16, e16, W16, st16⟩ := stR X11 hx hZ e11 Ar14 (j := e1x) hin14 rfl (Sto.ofVA Ar14 q14 P12 (Ins.self F1_15)) (g := (mkF m 47 #[rv u1, rv w2, rv u2] [(.ref u2), (.int e1x), (.ref u3)])) rfl rfl (hb hby d5_47)
  have K16 : Keep h0 h16 [u1, u3] := K8.wr W16 (Or.inl (List.mem_of_getElem? (i := 1) rfl))
  have N16 := Fr.snoc X16 N8 P14
  have V16 : Ary Z h16 u3 u4 (.array .byte) (8 : Int32) := Ary.set Ar14 q14 S14 N14z H14 rfl W16
  have F1_17 : Fld Z h8 u1 "com/example/afterlog/afterlog/ListValue" "size" "I" (.int 3) := P1.other W8 (Or.inr (slot_ne (Or.inl (tw hw 20 rfl)) (Or.inl (tw hw 40 rfl)) (by decide) (t := .int) (t' := .int) (by decide) (by decide)))
  have F2_18 : Fld Z h16 u1 "com/example/afterlog/afterlog/ListValue" "size" "I" (.int 3) := F1_17.other W16 (Or.inl (Ne.symm P11))
  obtain ⟨T19, X19, e19, st19⟩ := getF X16 hx hZ hown (host := "") (Or.inl (tw hw 19 rfl)) Via.refl e16 F2_18 (g := (mkF m 67 #[rv u1, rv w2, rv u2] [(.ref u1), (.ref u1)])) rfl rfl (hb hby d5_67)
  have F1_20 : Exa Z h8 u1 "com/example/afterlog/afterlog/ListValue" := P6.wr W8
  have F2_21 : Exa Z h16 u1 "com/example/afterlog/afterlog/ListValue" := F1_20.wr W16
  have F2_22 : Fld Z h16 u1 "com/example/afterlog/afterlog/ListValue" "elements" "[[B" (.ref u3) := F1_9.other W16 (Or.inl (Ne.symm P11))
  have F2_23 : Fld Z h16 u1 "com/example/afterlog/afterlog/ListValue" "head" "I" (.int e1x) := Fw8.other W16 (Or.inl (Ne.symm P11))
  obtain ⟨T24, h24, X24, e24, W24, st24⟩ := putF X19 hx hZ hown (host := "") (Or.inl (tw hw 19 rfl)) Via.refl e19 F2_18 F2_21 (Or.inl (tw hw 20 rfl)) (tw hw 2 rfl) (ty := .int) (by decide) rfl rfl (g := (mkF m 72 #[rv u1, rv w2, rv u2] [(.int 4), (.ref u1)])) rfl rfl (hb hby d5_72)
  have K24 : Keep h0 h24 [u1, u3] := K16.wr W24 (Or.inl (List.mem_of_getElem? (i := 0) rfl))
  have N24 := Fr.snoc X24 N16 P9
  have Fw24 : Fld Z h24 u1 "com/example/afterlog/afterlog/ListValue" "size" "I" (.int 4) := F2_18.same W24
  have F3_25 : Fld Z h24 u1 "com/example/afterlog/afterlog/ListValue" "elements" "[[B" (.ref u3) := F2_22.other W24 (Or.inr (slot_ne (Or.inl (tw hw 13 rfl)) (Or.inl (tw hw 20 rfl)) (by decide) (t := (.array (.array .byte))) (t' := .int) (by decide) (by decide)))
  have F3_26 : Exa Z h24 u1 "com/example/afterlog/afterlog/ListValue" := F2_21.wr W24
  have F3_27 : Fld Z h24 u1 "com/example/afterlog/afterlog/ListValue" "head" "I" (.int e1x) := F2_23.other W24 (Or.inr (slot_ne (Or.inl (tw hw 40 rfl)) (Or.inl (tw hw 20 rfl)) (by decide) (t := .int) (t' := .int) (by decide) (by decide)))
  have F3_28 : Ary Z h24 u3 u4 (.array .byte) (8 : Int32) := V16.other W24 P11
  have F2_29 : Exa Z h16 u3 "[[B" := F1_12.wr W16
  have F3_30 : Exa Z h24 u3 "[[B" := F2_29.wr W24
  obtain ⟨fs, hr, hrun, hended, hW, hsame⟩ := X24.leave (v := none) (fun _ => rfl)
  refine ⟨_, _, pre0 _ ?_, hrun, hended, _, _, rfl, ?_, ⟨_, rfl⟩, hW, hsame.mono (by decide) (by decide)⟩
  · show SF p e below s₁ (mkF m 0 #[rv u1, rv w2, rv u2] []) _
    refine XS.aloadN X0.here hx rfl (hb hby d5_0) rfl rfl ?_
    show SF p e below s₁ (mkF m 1 #[rv u1, rv w2, rv u2] [(.ref u1)]) _
    refine st1 _ ?_
    show SF p e below T1 (mkF m 4 #[rv u1, rv w2, rv u2] [(.int 3)]) _
    refine XS.aloadN X1.here hx rfl (hb hby d5_4) rfl rfl ?_
    show SF p e below T1 (mkF m 5 #[rv u1, rv w2, rv u2] [(.ref u1), (.int 3)]) _
    refine st2 _ ?_
    show SF p e below T2 (mkF m 8 #[rv u1, rv w2, rv u2] [(.ref u3), (.int 3)]) _
    refine X2.arraylength hx (by rw [e2]; exact Ar3.1) (State.isArrayOf_alike hZ.alike Ar3.2.1) (g := (mkF m 8 #[rv u1, rv w2, rv u2] [(.ref u3), (.int 3)])) rfl rfl (hb hby d5_8) _ ?_
    rw [len_of S3 N3z]
    show SF p e below T2 (mkF m 9 #[rv u1, rv w2, rv u2] [(.int 8), (.int 3)]) _
    refine XS.icmpYes X2.here hx rfl (pc0 := 9) (pc' := 16) rfl (hb hby d5_9) rfl (feq (by decide : ¬ ((3 : Int32) = (8 : Int32)))).2 (by decide) (by decide) ?_
    show SF p e below T2 (mkF m 16 #[rv u1, rv w2, rv u2] []) _
    refine XS.aloadN X2.here hx rfl (hb hby d5_16) rfl rfl ?_
    show SF p e below T2 (mkF m 17 #[rv u1, rv w2, rv u2] [(.ref w2)]) _
    refine st4 _ ?_
    show SF p e below T4 (mkF m 20 #[rv u1, rv w2, rv u2] [(.ref w2), (.ref w2)]) _
    refine Jvm.RoadKit.acmp (g := (mkF m 20 #[rv u1, rv w2, rv u2] [(.ref w2), (.ref w2)])) X4 hx rfl rfl rfl (pc0 := 20) (pc' := 23) (same := true) rfl (hb hby d5_20) rfl (decide_eq_true rfl) (by decide) (by decide) ?_
    show SF p e below T4 (mkF m 23 #[rv u1, rv w2, rv u2] []) _
    refine XS.aloadN X4.here hx rfl (hb hby d5_23) rfl rfl ?_
    show SF p e below T4 (mkF m 24 #[rv u1, rv w2, rv u2] [(.ref u1)]) _
    refine XS.aloadN X4.here hx rfl (hb hby d5_24) rfl rfl ?_
    show SF p e below T4 (mkF m 25 #[rv u1, rv w2, rv u2] [(.ref u1), (.ref u1)]) _
    refine XS.aloadN X4.here hx rfl (hb hby d5_25) rfl rfl ?_
    show SF p e below T4 (mkF m 26 #[rv u1, rv w2, rv u2] [(.ref u1), (.ref u1), (.ref u1)]) _
    refine st5 _ ?_
    show SF p e below T5 (mkF m 29 #[rv u1, rv w2, rv u2] [(.ref u3), (.ref u1), (.ref u1)]) _
    refine X5.arraylength hx (by rw [e5]; exact Ar6.1) (State.isArrayOf_alike hZ.alike Ar6.2.1) (g := (mkF m 29 #[rv u1, rv w2, rv u2] [(.ref u3), (.ref u1), (.ref u1)])) rfl rfl (hb hby d5_29) _ ?_
    rw [len_of S6 N6z]
    show SF p e below T5 (mkF m 30 #[rv u1, rv w2, rv u2] [(.int 8), (.ref u1), (.ref u1)]) _
    refine XS.iconst X5.here hx rfl (hb hby d5_30) ?_
    show SF p e below T5 (mkF m 31 #[rv u1, rv w2, rv u2] [(.int 1), (.int 8), (.ref u1), (.ref u1)]) _
    refine XS.isub X5.here hx rfl (hb hby d5_31) rfl ?_
    show SF p e below T5 (mkF m 32 #[rv u1, rv w2, rv u2] [(.int ((8 : Int32) - (1 : Int32))), (.ref u1), (.ref u1)]) _
    rw [show ((8 : Int32) - (1 : Int32)) = (7 : Int32) from by decide]
    show SF p e below T5 (mkF m 32 #[rv u1, rv w2, rv u2] [(.int 7), (.ref u1), (.ref u1)]) _
    refine st7.trans ?_
    show SF p e below T7 (mkF m 35 #[rv u1, rv w2, rv u2] [(.int e1x), (.ref u1)]) _
    refine st8 _ ?_
    show SF p e below T8 (mkF m 38 #[rv u1, rv w2, rv u2] []) _
    refine XS.aloadN X8.here hx rfl (hb hby d5_38) rfl rfl ?_
    show SF p e below T8 (mkF m 39 #[rv u1, rv w2, rv u2] [(.ref u1)]) _
    refine st10 _ ?_
    show SF p e below T10 (mkF m 42 #[rv u1, rv w2, rv u2] [(.ref u3)]) _
    refine XS.aloadN X10.here hx rfl (hb hby d5_42) rfl rfl ?_
    show SF p e below T10 (mkF m 43 #[rv u1, rv w2, rv u2] [(.ref u1), (.ref u3)]) _
    refine st11 _ ?_
    show SF p e below T11 (mkF m 46 #[rv u1, rv w2, rv u2] [(.int e1x), (.ref u3)]) _
    refine XS.aloadN X11.here hx rfl (hb hby d5_46) rfl rfl ?_
    show SF p e below T11 (mkF m 47 #[rv u1, rv w2, rv u2] [(.ref u2), (.int e1x), (.ref u3)]) _
    refine st16 _ ?_
    show SF p e below T16 (mkF m 48 #[rv u1, rv w2, rv u2] []) _
    refine XS.goto X16.here hx rfl (pc0 := 48) (pc' := 65) rfl (hb hby d5_48) (by decide) (by decide) ?_
    show SF p e below T16 (mkF m 65 #[rv u1, rv w2, rv u2] []) _
    refine XS.aloadN X16.here hx rfl (hb hby d5_65) rfl rfl ?_
    show SF p e below T16 (mkF m 66 #[rv u1, rv w2, rv u2] [(.ref u1)]) _
    refine XS.dup X16.here hx rfl (hb hby d5_66) rfl rfl ?_
    show SF p e below T16 (mkF m 67 #[rv u1, rv w2, rv u2] [(.ref u1), (.ref u1)]) _
    refine st19 _ ?_
    show SF p e below T19 (mkF m 70 #[rv u1, rv w2, rv u2] [(.int 3), (.ref u1)]) _
    refine XS.iconst X19.here hx rfl (hb hby d5_70) ?_
    show SF p e below T19 (mkF m 71 #[rv u1, rv w2, rv u2] [(.int 1), (.int 3), (.ref u1)]) _
    refine XS.iadd X19.here hx rfl (hb hby d5_71) rfl ?_
    show SF p e below T19 (mkF m 72 #[rv u1, rv w2, rv u2] [(.int ((3 : Int32) + (1 : Int32))), (.ref u1)]) _
    rw [show ((3 : Int32) + (1 : Int32)) = (4 : Int32) from by decide]
    show SF p e below T19 (mkF m 72 #[rv u1, rv w2, rv u2] [(.int 4), (.ref u1)]) _
    refine st24 _ ?_
    show SF p e below T24 (mkF m 75 #[rv u1, rv w2, rv u2] []) _
    exact X24.returnOut hx Bd.returns (hb hby d5_75) hr
  · show Q5_19 Z u1 w2 u2 u3 u4 u5 h0 n0 _ T24.heap _
    rw [e24]
    exact ⟨e1x, bx_i9, rfl, N24, K24, Fw24, F3_25, F3_26, F3_27, F3_28, F3_30⟩
-- ListValueIsEmptyPinLaw.step 
def Q4_20 (Z : State) (u1 : Addr) (u2 : Int32) (u3 : Addr) (w2 : Addr) (u4 : Addr) (u5 : ClassId) (u6 : Int32) (h0 : Heap) (n0 : Nat) (v : Option Value) (h : Heap) (L : List Loc) : Prop := ∃ e1x : Int32, (¬ e1x < (0 : Int32) ∧ e1x < (8 : Int32)) ∧ v = some (.int 4) ∧ Fr n0 L ∧ Keep h0 h [u1, u4] ∧ Exa Z h u1 "com/example/afterlog/afterlog/ListValue" ∧ Fld Z h u1 "com/example/afterlog/afterlog/ListValue" "size" "I" (.int 4) ∧ Fld Z h u1 "com/example/afterlog/afterlog/ListValue" "elements" "[[B" (.ref u4) ∧ Fld Z h u1 "com/example/afterlog/afterlog/ListValue" "head" "I" (.int e1x) ∧ Exa Z h u4 "[[B" ∧ Ary Z h u4 u5 (.array .byte) (8 : Int32)
set_option maxRecDepth 65536 in
set_option maxHeartbeats 40000000 in
theorem rm4_20 (l : Launch) (Z : State) (a0 : Array Value) (hw : HW Z a0) (ws : List Jvm.Cond) (u1 : Addr) (u2 : Int32) (u3 : Addr) (w2 : Addr) (u4 : Addr) (u5 : ClassId) (u6 : Int32) (h0 : Heap) (n0 : Nat) (Z0 : n0 ≤ h0.size) (P1 : ¬ ((u2 &&& (2 : Int32)) = (0 : Int32))) (Sg2 : Sta Z Z.heap "com/example/afterlog/afterlog/ListValue$End" "HEAD" "Lcom/example/afterlog/afterlog/ListValue$End;" (.ref w2)) (P3 : Old Z n0 h0) (P4 : (u2 &&& (1 : Int32)) = (0 : Int32)) (P5 : Exa Z h0 u1 "com/example/afterlog/afterlog/ListValue") (P6 : Fld Z h0 u1 "com/example/afterlog/afterlog/ListValue" "size" "I" (.int 3)) (P7 : Fld Z h0 u1 "com/example/afterlog/afterlog/ListValue" "elements" "[[B" (.ref u4)) (P8 : Ary Z h0 u4 u5 (.array .byte) (8 : Int32)) (P9 : Fld Z h0 u1 "com/example/afterlog/afterlog/ListValue" "head" "I" (.int u6)) (P10 : ¬ u6 < (0 : Int32) ∧ u6 < (8 : Int32)) (P11 : n0 ≤ u1) (P12 : Exa Z h0 u4 "[[B") (P13 : u4 ≠ u1) (P14 : OvrA Z u5 .byte "[B") (P15 : Exa Z h0 u3 "[B") (P16 : n0 ≤ u4) :
    MF l Z (⟨"com/example/afterlog/afterlog/ListValueIsEmptyPinLaw", "step", "(Lcom/example/afterlog/afterlog/ListValue;II[B)I"⟩ : MethodName) (Jvm.Cond.code (⟨"com/example/afterlog/afterlog/ListValueIsEmptyPinLaw", "step", "(Lcom/example/afterlog/afterlog/ListValue;II[B)I"⟩ : MethodName) method_3_code 5 (some .int)) ws ({ frames := 2, cells := 0, slots := 0, locals := 29 } : Room) #[(.ref u1), (.int 3), (.int u2), (.ref u3)] h0 (Q4_20 Z u1 u2 u3 w2 u4 u5 u6 h0 n0) := by
  refine MetFree.of_bodySF (plainFor_of_name pn_1) hisR ?_
  intro p e s m args below meth c s₁ Bd hml0 hP hK
  obtain ⟨rfl, hZ, hh⟩ := hP
  have hx := Bd.exec
  have hby := Bd.bytes
  have hml : c.maxLocals = 5 := hml0
  have hown : s.vm.findClass "com/example/afterlog/afterlog/ListValueIsEmptyPinLaw" = some m.cls := findClass_of_methodNamed Bd.named
  have hnm := (name_of_methodNamed Bd.named Bd.method).1
  have X0 : Stand p l e ({ frames := 2, cells := 0, slots := 0, locals := 29 } : Room) s m #[(.ref u1), (.int 3), (.int u2), (.ref u3)] below meth c s₁ [] 0 0 := Stand.of_body Bd
  have e0 : s₁.heap = h0 := by rw [← hh, Bd.state]; rfl
  have N0 := Fr.nil n0
  have pre0 : ∀ t, SF p e below s₁ (mkF m 0 #[rv u1, iv 3, iv u2, rv u3, .unset] []) t → SF p e below s₁ (entryFrame m #[(.ref u1), (.int 3), (.int u2), (.ref u3)] 5) t := fun t k => castTop (ef_4 m u1 (3 : Int32) u2 u3) k
  obtain ⟨T1, X1, e1, st1⟩ := getS2 X0 hx hZ hown (host := "") (Or.inl (tw hw 42 rfl)) Via.refl e0 (Sg2.ext P3.2) (g := (mkF m 6 #[rv u1, iv 3, iv u2, rv u3, .unset] [])) rfl (hb hby d4_6)
  obtain ⟨cq2, kq2, q2a, q2b, q2c⟩ := isOf hZ e1 P5
  obtain ⟨_, _, ⟨T2, L2, k2x, n2⟩, -, X2, ⟨Lc2, hQ2, l2, y2, z2⟩, st2⟩ := X1.virtualBack hx (y := (⟨"com/example/afterlog/afterlog/ListValue", "push", "(Lcom/example/afterlog/afterlog/ListValue$End;[B)V"⟩ : MethodName)) (z := (⟨"com/example/afterlog/afterlog/ListValue", "push", "(Lcom/example/afterlog/afterlog/ListValue$End;[B)V"⟩ : MethodName)) hown (mvT hZ (tw hw 28 rfl)) (mvT hZ (tw hw 29 rfl)) (notFace_of_selects (args := #[]) (mvT hZ (tw hw 31 rfl))) (mvT hZ (tw hw 31 rfl)) (mvT hZ (tw hw 30 rfl)) (by decide) (backOf (W := 0) (rm5_19 l Z a0 hw [] u1 w2 u3 u4 u5 u6 h0 n0 Z0 P6 P7 P8 Sg2 P3 P5 P9 P10 P11 P12 P13 P14 P15 P16) hZ (tw hw 32 rfl) (tw hw 3 rfl) (by decide) (by decide)) q2a q2c (g := (mkF m 42 #[rv u1, iv 3, iv u2, rv u3, rv w2] [(.ref u3), (.ref w2), (.ref u1)])) rfl (by rw [hml]; rfl) (Steps.refl _) (argsL := [(.ref w2), (.ref u3)]) (rest := []) (lenOf pd_3 rfl) rfl (by show 2 * 0 + _ ≤ _; exact Nat.le_of_eq rfl) (hb hby d4_42) (fun _ _ => ⟨rfl, e1, (by decide : 0 + 0 ≤ _), (by decide : 0 + 0 ≤ _)⟩)
  dsimp only [Pt.U, Pt.locs, Pt.cells, Pt.slots] at X2 l2 y2 z2 st2 hQ2
  subst l2 y2 z2
  obtain ⟨e1x, bx_i10, rfl, N2q, K2c, Fq2_0, Fq2_1, Fq2_2, Fq2_3, Fq2_4, Fq2_5⟩ := hQ2
  have K2 : Keep h0 T2.heap [u1, u4] := (Keep.refl h0 [u1, u4]).trans K2c (allS (Or.inl (List.mem_of_getElem? (i := 0) rfl)) (allS (Or.inl (List.mem_of_getElem? (i := 1) rfl)) all0))
  have N2 := Fr.app N0 N2q
  obtain ⟨fs, hr, hrun, hended, hW, hsame⟩ := X2.leave (v := some (.int 4)) (fun h => by rw [Bd.returns] at h; cases h)
  refine ⟨_, _, pre0 _ ?_, hrun, hended, _, _, rfl, ?_, ⟨_, rfl⟩, hW, hsame.mono (by decide) (by decide)⟩
  · show SF p e below s₁ (mkF m 0 #[rv u1, iv 3, iv u2, rv u3, .unset] []) _
    refine XS.iloadN X0.here hx rfl (hb hby d4_0) rfl ?_
    show SF p e below s₁ (mkF m 1 #[rv u1, iv 3, iv u2, rv u3, .unset] [(.int u2)]) _
    refine XS.iconst X0.here hx rfl (hb hby d4_1) ?_
    show SF p e below s₁ (mkF m 2 #[rv u1, iv 3, iv u2, rv u3, .unset] [(.int 2), (.int u2)]) _
    refine XS.iand X0.here hx rfl (hb hby d4_2) rfl ?_
    show SF p e below s₁ (mkF m 3 #[rv u1, iv 3, iv u2, rv u3, .unset] [(.int (u2 &&& (2 : Int32)))]) _
    refine XS.ifNo X0.here hx rfl (hb hby d4_3) rfl ((if0 _ _).trans (feq P1).1) ?_
    show SF p e below s₁ (mkF m 6 #[rv u1, iv 3, iv u2, rv u3, .unset] []) _
    refine st1 _ ?_
    show SF p e below T1 (mkF m 9 #[rv u1, iv 3, iv u2, rv u3, .unset] [(.ref w2)]) _
    refine XS.goto X1.here hx rfl (pc0 := 9) (pc' := 15) rfl (hb hby d4_9) (by decide) (by decide) ?_
    show SF p e below T1 (mkF m 15 #[rv u1, iv 3, iv u2, rv u3, .unset] [(.ref w2)]) _
    refine XS.astore X1.here hx rfl (hb hby d4_15) rfl rfl (l' := #[rv u1, iv 3, iv u2, rv u3, rv w2]) rfl ?_
    show SF p e below T1 (mkF m 17 #[rv u1, iv 3, iv u2, rv u3, rv w2] []) _
    refine XS.iloadN X1.here hx rfl (hb hby d4_17) rfl ?_
    show SF p e below T1 (mkF m 18 #[rv u1, iv 3, iv u2, rv u3, rv w2] [(.int u2)]) _
    refine XS.iconst X1.here hx rfl (hb hby d4_18) ?_
    show SF p e below T1 (mkF m 19 #[rv u1, iv 3, iv u2, rv u3, rv w2] [(.int 1), (.int u2)]) _
    refine XS.iand X1.here hx rfl (hb hby d4_19) rfl ?_
    show SF p e below T1 (mkF m 20 #[rv u1, iv 3, iv u2, rv u3, rv w2] [(.int (u2 &&& (1 : Int32)))]) _
    refine XS.ifYes X1.here hx rfl (pc0 := 20) (pc' := 38) rfl (hb hby d4_20) rfl ((if0 _ _).trans (teq P4).1) (by decide) (by decide) ?_
    show SF p e below T1 (mkF m 38 #[rv u1, iv 3, iv u2, rv u3, rv w2] []) _
    refine XS.aloadN X1.here hx rfl (hb hby d4_38) rfl rfl ?_
    show SF p e below T1 (mkF m 39 #[rv u1, iv 3, iv u2, rv u3, rv w2] [(.ref u1)]) _
    refine XS.aload X1.here hx rfl (hb hby d4_39) rfl rfl ?_
    show SF p e below T1 (mkF m 41 #[rv u1, iv 3, iv u2, rv u3, rv w2] [(.ref w2), (.ref u1)]) _
    refine XS.aloadN X1.here hx rfl (hb hby d4_41) rfl rfl ?_
    show SF p e below T1 (mkF m 42 #[rv u1, iv 3, iv u2, rv u3, rv w2] [(.ref u3), (.ref w2), (.ref u1)]) _
    refine st2.trans ?_
    show SF p e below T2 (mkF m 45 #[rv u1, iv 3, iv u2, rv u3, rv w2] []) _
    refine XS.iloadN X2.here hx rfl (hb hby d4_45) rfl ?_
    show SF p e below T2 (mkF m 46 #[rv u1, iv 3, iv u2, rv u3, rv w2] [(.int 3)]) _
    refine XS.iconst X2.here hx rfl (hb hby d4_46) ?_
    show SF p e below T2 (mkF m 47 #[rv u1, iv 3, iv u2, rv u3, rv w2] [(.int 1), (.int 3)]) _
    refine XS.iadd X2.here hx rfl (hb hby d4_47) rfl ?_
    show SF p e below T2 (mkF m 48 #[rv u1, iv 3, iv u2, rv u3, rv w2] [(.int ((3 : Int32) + (1 : Int32)))]) _
    rw [show ((3 : Int32) + (1 : Int32)) = (4 : Int32) from by decide]
    show SF p e below T2 (mkF m 48 #[rv u1, iv 3, iv u2, rv u3, rv w2] [(.int 4)]) _
    exact retI X2 hx Bd.returns (hb hby d4_48) hr
  · show Q4_20 Z u1 u2 u3 w2 u4 u5 u6 h0 n0 _ T2.heap _
    exact ⟨e1x, bx_i10, rfl, N2, K2, Fq2_2, Fq2_0, Fq2_1, Fq2_3, Fq2_5, Fq2_4⟩
theorem d7_7 : decode prog_24_method_7_code 7 = .ok (.aload_n 0, 1) := by decide +kernel
theorem d7_8 : decode prog_24_method_7_code 8 = .ok (.getfield 27, 3) := by decide +kernel
theorem d7_11 : decode prog_24_method_7_code 11 = .ok (.goto 13, 3) := by decide +kernel
theorem d7_46 : decode prog_24_method_7_code 46 = .ok (.aload_n 0, 1) := by decide +kernel
theorem d7_47 : decode prog_24_method_7_code 47 = .ok (.aload_n 0, 1) := by decide +kernel
theorem d7_48 : decode prog_24_method_7_code 48 = .ok (.iconst 1, 1) := by decide +kernel
theorem d7_49 : decode prog_24_method_7_code 49 = .ok (.invokevirtual 30, 3) := by decide +kernel
theorem d7_52 : decode prog_24_method_7_code 52 = .ok (.putfield 27, 3) := by decide +kernel
-- ListValue.pop 
def Q7_21 (Z : State) (u1 : Addr) (w2 : Addr) (u2 : Int32) (u3 : Addr) (u4 : ClassId) (h0 : Heap) (n0 : Nat) (v : Option Value) (h : Heap) (L : List Loc) : Prop := ∃ e1x : Value, ∃ e2x : Int32, (e1x.isRef = true) ∧ (¬ e2x < (0 : Int32) ∧ e2x < (8 : Int32)) ∧ v = some e1x ∧ Fr n0 L ∧ Keep h0 h [u3, u1] ∧ Ary Z h u3 u4 (.array .byte) (8 : Int32) ∧ Exa Z h u3 "[[B" ∧ Fld Z h u1 "com/example/afterlog/afterlog/ListValue" "head" "I" (.int e2x) ∧ Fld Z h u1 "com/example/afterlog/afterlog/ListValue" "elements" "[[B" (.ref u3) ∧ Exa Z h u1 "com/example/afterlog/afterlog/ListValue" ∧ Fld Z h u1 "com/example/afterlog/afterlog/ListValue" "size" "I" (.int 2)
set_option maxRecDepth 65536 in
set_option maxHeartbeats 40000000 in
theorem rm7_21 (l : Launch) (Z : State) (a0 : Array Value) (hw : HW Z a0) (ws : List Jvm.Cond) (u1 : Addr) (w2 : Addr) (u2 : Int32) (u3 : Addr) (u4 : ClassId) (h0 : Heap) (n0 : Nat) (Z0 : n0 ≤ h0.size) (Sg2 : Sta Z Z.heap "com/example/afterlog/afterlog/ListValue$End" "HEAD" "Lcom/example/afterlog/afterlog/ListValue$End;" (.ref w2)) (P2 : Old Z n0 h0) (P3 : Fld Z h0 u1 "com/example/afterlog/afterlog/ListValue" "head" "I" (.int u2)) (P4 : Fld Z h0 u1 "com/example/afterlog/afterlog/ListValue" "elements" "[[B" (.ref u3)) (P5 : Ary Z h0 u3 u4 (.array .byte) (8 : Int32)) (P6 : ¬ u2 < (0 : Int32) ∧ u2 < (8 : Int32)) (P7 : Exa Z h0 u3 "[[B") (P8 : n0 ≤ u3) (P9 : Exa Z h0 u1 "com/example/afterlog/afterlog/ListValue") (P10 : u1 ≠ u3) (P11 : Fld Z h0 u1 "com/example/afterlog/afterlog/ListValue" "size" "I" (.int 3)) (P12 : n0 ≤ u1) :
    MF l Z (⟨"com/example/afterlog/afterlog/ListValue", "pop", "(Lcom/example/afterlog/afterlog/ListValue$End;)[B"⟩ : MethodName) (Jvm.Cond.code (⟨"com/example/afterlog/afterlog/ListValue", "pop", "(Lcom/example/afterlog/afterlog/ListValue$End;)[B"⟩ : MethodName) prog_24_method_7_code 4 (some (.array .byte))) ws ({ frames := 1, cells := 0, slots := 0, locals := 15 } : Room) #[(.ref u1), (.ref w2)] h0 (Q7_21 Z u1 w2 u2 u3 u4 h0 n0) := by
  refine MetFree.of_bodySF (plainFor_of_name pn_0) hisR ?_
  intro p e s m args below meth c s₁ Bd hml0 hP hK
  obtain ⟨rfl, hZ, hh⟩ := hP
  have hx := Bd.exec
  have hby := Bd.bytes
  have hml : c.maxLocals = 4 := hml0
  have hown : s.vm.findClass "com/example/afterlog/afterlog/ListValue" = some m.cls := findClass_of_methodNamed Bd.named
  have hnm := (name_of_methodNamed Bd.named Bd.method).1
  have X0 : Stand p l e ({ frames := 1, cells := 0, slots := 0, locals := 15 } : Room) s m #[(.ref u1), (.ref w2)] below meth c s₁ [] 0 0 := Stand.of_body Bd
  have e0 : s₁.heap = h0 := by rw [← hh, Bd.state]; rfl
  have N0 := Fr.nil n0
  have pre0 : ∀ t, SF p e below s₁ (mkF m 0 #[rv u1, rv w2, .unset, .unset] []) t → SF p e below s₁ (entryFrame m #[(.ref u1), (.ref w2)] 4) t := fun t k => castTop (ef_5 m u1 w2) k
  obtain ⟨T1, X1, e1, st1⟩ := getS2 X0 hx hZ hown (host := "") (Or.inl (tw hw 33 rfl)) Via.refl e0 (Sg2.ext P2.2) (g := (mkF m 1 #[rv u1, rv w2, .unset, .unset] [(.ref w2)])) rfl (hb hby d7_1)
  obtain ⟨T2, X2, e2, st2⟩ := getF X1 hx hZ hown (host := "") (Or.inl (tw hw 39 rfl)) Via.refl e1 P3 (g := (mkF m 8 #[rv u1, rv w2, .unset, .unset] [(.ref u1)])) rfl rfl (hb hby d7_8)
  obtain ⟨T3, X3, e3, st3⟩ := getF X2 hx hZ hown (host := "") (Or.inl (tw hw 12 rfl)) Via.refl e2 P4 (g := (mkF m 26 #[rv u1, rv w2, iv u2, .unset] [(.ref u1)])) rfl rfl (hb hby d7_26)
  obtain ⟨cl4, Ar4, q4, S4, N4z, H4⟩ := id P5
  have hin4 : ¬ (u2 < 0 ∨ cl4.slots.size ≤ (u2).toNatClampNeg) := inb_of S4 ⟨(P6).1, (P6).2⟩
  obtain ⟨e1x, hat4, rv4⟩ := H4 (u2).toNatClampNeg (Nat.lt_of_not_le fun y => hin4 (Or.inr y))
  obtain ⟨T5, X5, e5, st5⟩ := getF X3 hx hZ hown (host := "") (Or.inl (tw hw 12 rfl)) Via.refl e3 P4 (g := (mkF m 33 #[rv u1, rv w2, iv u2, .val e1x] [(.ref u1)])) rfl rfl (hb hby d7_33)
  obtain ⟨cl6, Ar6, q6, S6, N6z, H6⟩ := id P5
  have hin6 : ¬ (u2 < 0 ∨ cl6.slots.size ≤ (u2).toNatClampNeg) := inb_of S6 ⟨(P6).1, (P6).2⟩
  obtain ⟨T7, h7, X7, e7, W7, st7⟩ := stR X5 hx hZ e5 Ar6 (j := u2) hin6 rfl (Or.inl rfl) (g := (mkF m 38 #[rv u1, rv w2, iv u2, .val e1x] [.null, (.int u2), (.ref u3)])) rfl rfl (hb hby d7_38)
  have K7 : Keep h0 h7 [u3, u1] := (Keep.refl h0 [u3, u1]).wr W7 (Or.inl (List.mem_of_getElem? (i := 0) rfl))
  have N7 := Fr.snoc X7 N0 P8
  have V7 : Ary Z h7 u3 u4 (.array .byte) (8 : Int32) := Ary.set Ar6 q6 S6 N6z H6 rfl W7
  have O7 : Old Z n0 h7 := P2.wr W7 P8
  obtain ⟨T8, X8, e8, st8⟩ := getS2 X7 hx hZ hown (host := "") (Or.inl (tw hw 33 rfl)) Via.refl e7 (Sg2.ext O7.2) (g := (mkF m 40 #[rv u1, rv w2, iv u2, .val e1x] [(.ref w2)])) rfl (hb hby d7_40)
  have F1_9 : Exa Z h7 u1 "com/example/afterlog/afterlog/ListValue" := P9.wr W7
  have F1_10 : Fld Z h7 u1 "com/example/afterlog/afterlog/ListValue" "elements" "[[B" (.ref u3) := P4.other W7 (Or.inl P10)
  have F1_11 : Fld Z h7 u1 "com/example/afterlog/afterlog/ListValue" "head" "I" (.int u2) := P3.other W7 (Or.inl P10)
  have Z7 : n0 ≤ h7.size := Nat.le_trans Z0 (Keep.of_wr W7).1
  obtain ⟨cq12, q12, q12'⟩ := F1_9.cell
  obtain ⟨_, _, ⟨T12, L12, k12x, n12⟩, -, X12, ⟨Lc12, hQ12, l12, y12, z12⟩, st12⟩ := X8.privateBack hx (y := (⟨"com/example/afterlog/afterlog/ListValue", "slot", "(I)I"⟩ : MethodName)) hown (mvT hZ (tw hw 35 rfl)) (mvT hZ (tw hw 36 rfl)) (own_selP hZ (tw hw 2 rfl) (tw hw 37 rfl) (tw hw 36 rfl) (by decide)) (Cond.privateMethod_at (mvP hZ (tw hw 37 rfl) (args := #[]))) (mvT hZ (tw hw 38 rfl)) (by decide) (backOf (W := 1) (own_slot l Z a0 hw [] u1 u3 u4 u2 (1 : Int32) h7 n0 Z7 F1_10 F1_11 V7 P6 ⟨by decide, by decide⟩) hZ (tw hw 38 rfl) (tw hw 3 rfl) (by decide) (by decide)) (g := (mkF m 49 #[rv u1, rv w2, iv u2, .val e1x] [(.int 1), (.ref u1), (.ref u1)])) rfl (by rw [hml]; rfl) (Steps.refl _) (a := u1) (by rw [e8]; exact q12) q12' (argsL := [(.int 1)]) (rest := [(.ref u1)]) (lenOf pd_2 rfl) rfl (by show 2 * 0 + _ ≤ _; exact Nat.le_of_eq rfl) (hb hby d7_49) (fun _ _ => ⟨rfl, e8, (by decide : 0 + 0 ≤ _), (by decide : 0 + 0 ≤ _)⟩)
  dsimp only [Pt.U, Pt.locs, Pt.cells, Pt.slots] at X12 l12 y12 z12 st12 hQ12
  subst l12 y12 z12
  obtain ⟨e2x, bx_i10, rfl, N12q, e12⟩ := hQ12
  have N12 := Fr.app N7 N12q
  have F1_13 : Fld Z h7 u1 "com/example/afterlog/afterlog/ListValue" "size" "I" (.int 3) := P11.other W7 (Or.inl P10)
  obtain ⟨T14, h14, X14, e14, W14, st14⟩ := putF X12 hx hZ hown (host := "") (Or.inl (tw hw 39 rfl)) Via.refl e12 F1_11 F1_9 (Or.inl (tw hw 40 rfl)) (tw hw 2 rfl) (ty := .int) (by decide) rfl rfl (g := (mkF m 52 #[rv u1, rv w2, iv u2, .val e1x] [(.int e2x), (.ref u1)])) rfl rfl (hb hby d7_52)
  have K14 : Keep h0 h14 [u3, u1] := K7.wr W14 (Or.inl (List.mem_of_getElem? (i := 1) rfl))
  have N14 := Fr.snoc X14 N12 P12
  have Fw14 : Fld Z h14 u1 "com/example/afterlog/afterlog/ListValue" "head" "I" (.int e2x) := F1_11.same W14
  have F2_15 : Fld Z h14 u1 "com/example/afterlog/afterlog/ListValue" "size" "I" (.int 3) := F1_13.other W14 (Or.inr (slot_ne (Or.inl (tw hw 20 rfl)) (Or.inl (tw hw 40 rfl)) (by decide) (t := .int) (t' := .int) (by decide) (by decide)))
  obtain ⟨T16, X16, e16, st16⟩ := getF X14 hx hZ hown (host := "") (Or.inl (tw hw 19 rfl)) Via.refl e14 F2_15 (g := (mkF m 57 #[rv u1, rv w2, iv u2, .val e1x] [(.ref u1), (.ref u1)])) rfl rfl (hb hby d7_57)
  have F2_17 : Exa Z h14 u1 "com/example/afterlog/afterlog/ListValue" := F1_9.wr W14
  have F2_18 : Fld Z h14 u1 "com/example/afterlog/afterlog/ListValue" "elements" "[[B" (.ref u3) := F1_10.other W14 (Or.inr (slot_ne (Or.inl (tw hw 13 rfl)) (Or.inl (tw hw 40 rfl)) (by decide) (t := (.array (.array .byte))) (t' := .int) (by decide) (by decide)))
  obtain ⟨T19, h19, X19, e19, W19, st19⟩ := putF X16 hx hZ hown (host := "") (Or.inl (tw hw 19 rfl)) Via.refl e16 F2_15 F2_17 (Or.inl (tw hw 20 rfl)) (tw hw 2 rfl) (ty := .int) (by decide) rfl rfl (g := (mkF m 62 #[rv u1, rv w2, iv u2, .val e1x] [(.int 2), (.ref u1)])) rfl rfl (hb hby d7_62)
  have K19 : Keep h0 h19 [u3, u1] := K14.wr W19 (Or.inl (List.mem_of_getElem? (i := 1) rfl))
  have N19 := Fr.snoc X19 N14 P12
  have Fw19 : Fld Z h19 u1 "com/example/afterlog/afterlog/ListValue" "size" "I" (.int 2) := F2_15.same W19
  have F2_20 : Ary Z h14 u3 u4 (.array .byte) (8 : Int32) := V7.other W14 (Ne.symm P10)
  have F3_21 : Ary Z h19 u3 u4 (.array .byte) (8 : Int32) := F2_20.other W19 (Ne.symm P10)
  have F1_22 : Exa Z h7 u3 "[[B" := P7.wr W7
  have F2_23 : Exa Z h14 u3 "[[B" := F1_22.wr W14
  have F3_24 : Exa Z h19 u3 "[[B" := F2_23.wr W19
  have F3_25 : Fld Z h19 u1 "com/example/afterlog/afterlog/ListValue" "head" "I" (.int e2x) := Fw14.other W19 (Or.inr (slot_ne (Or.inl (tw hw 40 rfl)) (Or.inl (tw hw 20 rfl)) (by decide) (t := .int) (t' := .int) (by decide) (by decide)))
  have F3_26 : Fld Z h19 u1 "com/example/afterlog/afterlog/ListValue" "elements" "[[B" (.ref u3) := F2_18.other W19 (Or.inr (slot_ne (Or.inl (tw hw 13 rfl)) (Or.inl (tw hw 20 rfl)) (by decide) (t := (.array (.array .byte))) (t' := .int) (by decide) (by decide)))
  have F3_27 : Exa Z h19 u1 "com/example/afterlog/afterlog/ListValue" := F2_17.wr W19
  obtain ⟨fs, hr, hrun, hended, hW, hsame⟩ := X19.leave (v := some e1x) (fun h => by rw [Bd.returns] at h; cases h)
  refine ⟨_, _, pre0 _ ?_, hrun, hended, _, _, rfl, ?_, ⟨_, rfl⟩, hW, hsame.mono (by decide) (by decide)⟩
  · show SF p e below s₁ (mkF m 0 #[rv u1, rv w2, .unset, .unset] []) _
    refine XS.aloadN X0.here hx rfl (hb hby d7_0) rfl rfl ?_
    show SF p e below s₁ (mkF m 1 #[rv u1, rv w2, .unset, .unset] [(.ref w2)]) _
    refine st1 _ ?_
    show SF p e below T1 (mkF m 4 #[rv u1, rv w2, .unset, .unset] [(.ref w2), (.ref w2)]) _
    refine Jvm.RoadKit.acmp (g := (mkF m 4 #[rv u1, rv w2, .unset, .unset] [(.ref w2), (.ref w2)])) X1 hx rfl rfl rfl (pc0 := 4) (pc' := 7) (same := true) rfl (hb hby d7_4) rfl (decide_eq_true rfl) (by decide) (by decide) ?_
    show SF p e below T1 (mkF m 7 #[rv u1, rv w2, .unset, .unset] []) _
    refine XS.aloadN X1.here hx rfl (hb hby d7_7) rfl rfl ?_
    show SF p e below T1 (mkF m 8 #[rv u1, rv w2, .unset, .unset] [(.ref u1)]) _
    refine st2 _ ?_
    show SF p e below T2 (mkF m 11 #[rv u1, rv w2, .unset, .unset] [(.int u2)]) _
    refine XS.goto X2.here hx rfl (pc0 := 11) (pc' := 24) rfl (hb hby d7_11) (by decide) (by decide) ?_
    show SF p e below T2 (mkF m 24 #[rv u1, rv w2, .unset, .unset] [(.int u2)]) _
    refine XS.istoreN X2.here hx rfl (hb hby d7_24) rfl (l' := #[rv u1, rv w2, iv u2, .unset]) rfl ?_
    show SF p e below T2 (mkF m 25 #[rv u1, rv w2, iv u2, .unset] []) _
    refine XS.aloadN X2.here hx rfl (hb hby d7_25) rfl rfl ?_
    show SF p e below T2 (mkF m 26 #[rv u1, rv w2, iv u2, .unset] [(.ref u1)]) _
    refine st3 _ ?_
    show SF p e below T3 (mkF m 29 #[rv u1, rv w2, iv u2, .unset] [(.ref u3)]) _
    refine XS.iloadN X3.here hx rfl (hb hby d7_29) rfl ?_
    show SF p e below T3 (mkF m 30 #[rv u1, rv w2, iv u2, .unset] [(.int u2), (.ref u3)]) _
    refine X3.aaload hx (j := u2) (v := e1x) (by rw [e3]; exact Ar4.1) (State.isArrayOf_alike hZ.alike Ar4.2.1) rfl Ar4.2.2 hin4 hat4 (g := (mkF m 30 #[rv u1, rv w2, iv u2, .unset] [(.int u2), (.ref u3)])) rfl rfl (hb hby d7_30) _ ?_
    show SF p e below T3 (mkF m 31 #[rv u1, rv w2, iv u2, .unset] [e1x]) _
    refine XS.astoreN X3.here hx rfl (hb hby d7_31) rfl rv4 (l' := #[rv u1, rv w2, iv u2, .val e1x]) (by rcases ref_cases rv4 with h | ⟨_, h⟩ <;> subst h <;> rfl) ?_
    show SF p e below T3 (mkF m 32 #[rv u1, rv w2, iv u2, .val e1x] []) _
    refine XS.aloadN X3.here hx rfl (hb hby d7_32) rfl rfl ?_
    show SF p e below T3 (mkF m 33 #[rv u1, rv w2, iv u2, .val e1x] [(.ref u1)]) _
    refine st5 _ ?_
    show SF p e below T5 (mkF m 36 #[rv u1, rv w2, iv u2, .val e1x] [(.ref u3)]) _
    refine XS.iloadN X5.here hx rfl (hb hby d7_36) rfl ?_
    show SF p e below T5 (mkF m 37 #[rv u1, rv w2, iv u2, .val e1x] [(.int u2), (.ref u3)]) _
    refine XS.aconstNull X5.here hx rfl (hb hby d7_37) ?_
    show SF p e below T5 (mkF m 38 #[rv u1, rv w2, iv u2, .val e1x] [.null, (.int u2), (.ref u3)]) _
    refine st7 _ ?_
    show SF p e below T7 (mkF m 39 #[rv u1, rv w2, iv u2, .val e1x] []) _
    refine XS.aloadN X7.here hx rfl (hb hby d7_39) rfl rfl ?_
    show SF p e below T7 (mkF m 40 #[rv u1, rv w2, iv u2, .val e1x] [(.ref w2)]) _
    refine st8 _ ?_
    show SF p e below T8 (mkF m 43 #[rv u1, rv w2, iv u2, .val e1x] [(.ref w2), (.ref w2)]) _
    refine Jvm.RoadKit.acmp (g := (mkF m 43 #[rv u1, rv w2, iv u2, .val e1x] [(.ref w2), (.ref w2)])) X8 hx rfl rfl rfl (pc0 := 43) (pc' := 46) (same := true) rfl (hb hby d7_43) rfl (decide_eq_true rfl) (by decide) (by decide) ?_
    show SF p e below T8 (mkF m 46 #[rv u1, rv w2, iv u2, .val e1x] []) _
    refine XS.aloadN X8.here hx rfl (hb hby d7_46) rfl rfl ?_
    show SF p e below T8 (mkF m 47 #[rv u1, rv w2, iv u2, .val e1x] [(.ref u1)]) _
    refine XS.aloadN X8.here hx rfl (hb hby d7_47) rfl rfl ?_
    show SF p e below T8 (mkF m 48 #[rv u1, rv w2, iv u2, .val e1x] [(.ref u1), (.ref u1)]) _
    refine XS.iconst X8.here hx rfl (hb hby d7_48) ?_
    show SF p e below T8 (mkF m 49 #[rv u1, rv w2, iv u2, .val e1x] [(.int 1), (.ref u1), (.ref u1)]) _
    refine st12.trans ?_
    show SF p e below T12 (mkF m 52 #[rv u1, rv w2, iv u2, .val e1x] [(.int e2x), (.ref u1)]) _
    refine st14 _ ?_
    show SF p e below T14 (mkF m 55 #[rv u1, rv w2, iv u2, .val e1x] []) _
    refine XS.aloadN X14.here hx rfl (hb hby d7_55) rfl rfl ?_
    show SF p e below T14 (mkF m 56 #[rv u1, rv w2, iv u2, .val e1x] [(.ref u1)]) _
    refine XS.dup X14.here hx rfl (hb hby d7_56) rfl rfl ?_
    show SF p e below T14 (mkF m 57 #[rv u1, rv w2, iv u2, .val e1x] [(.ref u1), (.ref u1)]) _
    refine st16 _ ?_
    show SF p e below T16 (mkF m 60 #[rv u1, rv w2, iv u2, .val e1x] [(.int 3), (.ref u1)]) _
    refine XS.iconst X16.here hx rfl (hb hby d7_60) ?_
    show SF p e below T16 (mkF m 61 #[rv u1, rv w2, iv u2, .val e1x] [(.int 1), (.int 3), (.ref u1)]) _
    refine XS.isub X16.here hx rfl (hb hby d7_61) rfl ?_
    show SF p e below T16 (mkF m 62 #[rv u1, rv w2, iv u2, .val e1x] [(.int ((3 : Int32) - (1 : Int32))), (.ref u1)]) _
    rw [show ((3 : Int32) - (1 : Int32)) = (2 : Int32) from by decide]
    show SF p e below T16 (mkF m 62 #[rv u1, rv w2, iv u2, .val e1x] [(.int 2), (.ref u1)]) _
    refine st19 _ ?_
    show SF p e below T19 (mkF m 65 #[rv u1, rv w2, iv u2, .val e1x] []) _
    refine XS.aloadN X19.here hx rfl (hb hby d7_65) rfl rv4 ?_
    show SF p e below T19 (mkF m 66 #[rv u1, rv w2, iv u2, .val e1x] [e1x]) _
    exact own_retR X19 hx Bd.returns rfl rv4 (hb hby d7_66) hr
  · show Q7_21 Z u1 w2 u2 u3 u4 h0 n0 _ T19.heap _
    rw [e19]
    exact ⟨e1x, e2x, rv4, bx_i10, rfl, N19, K19, F3_21, F3_24, F3_25, F3_26, F3_27, Fw19⟩
-- ListValueIsEmptyPinLaw.step 
def Q4_22 (Z : State) (u1 : Addr) (u2 : Int32) (u3 : Addr) (w2 : Addr) (u4 : Int32) (u5 : Addr) (u6 : ClassId) (h0 : Heap) (n0 : Nat) (v : Option Value) (h : Heap) (L : List Loc) : Prop := ∃ e1x : Int32, (¬ e1x < (0 : Int32) ∧ e1x < (8 : Int32)) ∧ v = some (.int 2) ∧ Fr n0 L ∧ Keep h0 h [u5, u1] ∧ Exa Z h u5 "[[B" ∧ Ary Z h u5 u6 (.array .byte) (8 : Int32) ∧ Exa Z h u1 "com/example/afterlog/afterlog/ListValue" ∧ Fld Z h u1 "com/example/afterlog/afterlog/ListValue" "head" "I" (.int e1x) ∧ Fld Z h u1 "com/example/afterlog/afterlog/ListValue" "elements" "[[B" (.ref u5) ∧ Fld Z h u1 "com/example/afterlog/afterlog/ListValue" "size" "I" (.int 2)
set_option maxRecDepth 65536 in
set_option maxHeartbeats 40000000 in
theorem rm4_22 (l : Launch) (Z : State) (a0 : Array Value) (hw : HW Z a0) (ws : List Jvm.Cond) (u1 : Addr) (u2 : Int32) (u3 : Addr) (w2 : Addr) (u4 : Int32) (u5 : Addr) (u6 : ClassId) (h0 : Heap) (n0 : Nat) (Z0 : n0 ≤ h0.size) (P1 : ¬ ((u2 &&& (2 : Int32)) = (0 : Int32))) (Sg2 : Sta Z Z.heap "com/example/afterlog/afterlog/ListValue$End" "HEAD" "Lcom/example/afterlog/afterlog/ListValue$End;" (.ref w2)) (P3 : Old Z n0 h0) (P4 : ¬ ((u2 &&& (1 : Int32)) = (0 : Int32))) (P5 : Exa Z h0 u1 "com/example/afterlog/afterlog/ListValue") (P6 : Fld Z h0 u1 "com/example/afterlog/afterlog/ListValue" "head" "I" (.int u4)) (P7 : Fld Z h0 u1 "com/example/afterlog/afterlog/ListValue" "elements" "[[B" (.ref u5)) (P8 : Ary Z h0 u5 u6 (.array .byte) (8 : Int32)) (P9 : ¬ u4 < (0 : Int32) ∧ u4 < (8 : Int32)) (P10 : Exa Z h0 u5 "[[B") (P11 : n0 ≤ u5) (P12 : u1 ≠ u5) (P13 : Fld Z h0 u1 "com/example/afterlog/afterlog/ListValue" "size" "I" (.int 3)) (P14 : n0 ≤ u1) :
    MF l Z (⟨"com/example/afterlog/afterlog/ListValueIsEmptyPinLaw", "step", "(Lcom/example/afterlog/afterlog/ListValue;II[B)I"⟩ : MethodName) (Jvm.Cond.code (⟨"com/example/afterlog/afterlog/ListValueIsEmptyPinLaw", "step", "(Lcom/example/afterlog/afterlog/ListValue;II[B)I"⟩ : MethodName) method_3_code 5 (some .int)) ws ({ frames := 2, cells := 0, slots := 0, locals := 30 } : Room) #[(.ref u1), (.int 3), (.int u2), (.ref u3)] h0 (Q4_22 Z u1 u2 u3 w2 u4 u5 u6 h0 n0) := by
  refine MetFree.of_bodySF (plainFor_of_name pn_1) hisR ?_
  intro p e s m args below meth c s₁ Bd hml0 hP hK
  obtain ⟨rfl, hZ, hh⟩ := hP
  have hx := Bd.exec
  have hby := Bd.bytes
  have hml : c.maxLocals = 5 := hml0
  have hown : s.vm.findClass "com/example/afterlog/afterlog/ListValueIsEmptyPinLaw" = some m.cls := findClass_of_methodNamed Bd.named
  have hnm := (name_of_methodNamed Bd.named Bd.method).1
  have X0 : Stand p l e ({ frames := 2, cells := 0, slots := 0, locals := 30 } : Room) s m #[(.ref u1), (.int 3), (.int u2), (.ref u3)] below meth c s₁ [] 0 0 := Stand.of_body Bd
  have e0 : s₁.heap = h0 := by rw [← hh, Bd.state]; rfl
  have N0 := Fr.nil n0
  have pre0 : ∀ t, SF p e below s₁ (mkF m 0 #[rv u1, iv 3, iv u2, rv u3, .unset] []) t → SF p e below s₁ (entryFrame m #[(.ref u1), (.int 3), (.int u2), (.ref u3)] 5) t := fun t k => castTop (ef_4 m u1 (3 : Int32) u2 u3) k
  obtain ⟨T1, X1, e1, st1⟩ := getS2 X0 hx hZ hown (host := "") (Or.inl (tw hw 42 rfl)) Via.refl e0 (Sg2.ext P3.2) (g := (mkF m 6 #[rv u1, iv 3, iv u2, rv u3, .unset] [])) rfl (hb hby d4_6)
  obtain ⟨cq2, kq2, q2a, q2b, q2c⟩ := isOf hZ e1 P5
  obtain ⟨_, _, ⟨T2, L2, k2x, n2⟩, -, X2, ⟨Lc2, hQ2, l2, y2, z2⟩, st2⟩ := X1.virtualBack hx (y := (⟨"com/example/afterlog/afterlog/ListValue", "pop", "(Lcom/example/afterlog/afterlog/ListValue$End;)[B"⟩ : MethodName)) (z := (⟨"com/example/afterlog/afterlog/ListValue", "pop", "(Lcom/example/afterlog/afterlog/ListValue$End;)[B"⟩ : MethodName)) hown (mvT hZ (tw hw 43 rfl)) (mvT hZ (tw hw 44 rfl)) (notFace_of_selects (args := #[]) (mvT hZ (tw hw 46 rfl))) (mvT hZ (tw hw 46 rfl)) (mvT hZ (tw hw 45 rfl)) (by decide) (backOf (W := 0) (rm7_21 l Z a0 hw [] u1 w2 u4 u5 u6 h0 n0 Z0 Sg2 P3 P6 P7 P8 P9 P10 P11 P5 P12 P13 P14) hZ (tw hw 47 rfl) (tw hw 3 rfl) (by decide) (by decide)) q2a q2c (g := (mkF m 30 #[rv u1, iv 3, iv u2, rv u3, rv w2] [(.ref w2), (.ref u1)])) rfl (by rw [hml]; rfl) (Steps.refl _) (argsL := [(.ref w2)]) (rest := []) (lenOf pd_5 rfl) rfl (by show 2 * 0 + _ ≤ _; exact Nat.le_of_eq rfl) (hb hby d4_30) (fun _ _ => ⟨rfl, e1, (by decide : 0 + 0 ≤ _), (by decide : 0 + 0 ≤ _)⟩)
  dsimp only [Pt.U, Pt.locs, Pt.cells, Pt.slots] at X2 l2 y2 z2 st2 hQ2
  subst l2 y2 z2
  obtain ⟨w8x, e1x, bx_vx11, bx_i12, rfl, N2q, K2c, Fq2_0, Fq2_1, Fq2_2, Fq2_3, Fq2_4, Fq2_5⟩ := hQ2
  have K2 : Keep h0 T2.heap [u5, u1] := (Keep.refl h0 [u5, u1]).trans K2c (allS (Or.inl (List.mem_of_getElem? (i := 0) rfl)) (allS (Or.inl (List.mem_of_getElem? (i := 1) rfl)) all0))
  have N2 := Fr.app N0 N2q
  obtain ⟨fs, hr, hrun, hended, hW, hsame⟩ := X2.leave (v := some (.int 2)) (fun h => by rw [Bd.returns] at h; cases h)
  refine ⟨_, _, pre0 _ ?_, hrun, hended, _, _, rfl, ?_, ⟨_, rfl⟩, hW, hsame.mono (by decide) (by decide)⟩
  · show SF p e below s₁ (mkF m 0 #[rv u1, iv 3, iv u2, rv u3, .unset] []) _
    refine XS.iloadN X0.here hx rfl (hb hby d4_0) rfl ?_
    show SF p e below s₁ (mkF m 1 #[rv u1, iv 3, iv u2, rv u3, .unset] [(.int u2)]) _
    refine XS.iconst X0.here hx rfl (hb hby d4_1) ?_
    show SF p e below s₁ (mkF m 2 #[rv u1, iv 3, iv u2, rv u3, .unset] [(.int 2), (.int u2)]) _
    refine XS.iand X0.here hx rfl (hb hby d4_2) rfl ?_
    show SF p e below s₁ (mkF m 3 #[rv u1, iv 3, iv u2, rv u3, .unset] [(.int (u2 &&& (2 : Int32)))]) _
    refine XS.ifNo X0.here hx rfl (hb hby d4_3) rfl ((if0 _ _).trans (feq P1).1) ?_
    show SF p e below s₁ (mkF m 6 #[rv u1, iv 3, iv u2, rv u3, .unset] []) _
    refine st1 _ ?_
    show SF p e below T1 (mkF m 9 #[rv u1, iv 3, iv u2, rv u3, .unset] [(.ref w2)]) _
    refine XS.goto X1.here hx rfl (pc0 := 9) (pc' := 15) rfl (hb hby d4_9) (by decide) (by decide) ?_
    show SF p e below T1 (mkF m 15 #[rv u1, iv 3, iv u2, rv u3, .unset] [(.ref w2)]) _
    refine XS.astore X1.here hx rfl (hb hby d4_15) rfl rfl (l' := #[rv u1, iv 3, iv u2, rv u3, rv w2]) rfl ?_
    show SF p e below T1 (mkF m 17 #[rv u1, iv 3, iv u2, rv u3, rv w2] []) _
    refine XS.iloadN X1.here hx rfl (hb hby d4_17) rfl ?_
    show SF p e below T1 (mkF m 18 #[rv u1, iv 3, iv u2, rv u3, rv w2] [(.int u2)]) _
    refine XS.iconst X1.here hx rfl (hb hby d4_18) ?_
    show SF p e below T1 (mkF m 19 #[rv u1, iv 3, iv u2, rv u3, rv w2] [(.int 1), (.int u2)]) _
    refine XS.iand X1.here hx rfl (hb hby d4_19) rfl ?_
    show SF p e below T1 (mkF m 20 #[rv u1, iv 3, iv u2, rv u3, rv w2] [(.int (u2 &&& (1 : Int32)))]) _
    refine XS.ifNo X1.here hx rfl (hb hby d4_20) rfl ((if0 _ _).trans (feq P4).1) ?_
    show SF p e below T1 (mkF m 23 #[rv u1, iv 3, iv u2, rv u3, rv w2] []) _
    refine XS.iloadN X1.here hx rfl (hb hby d4_23) rfl ?_
    show SF p e below T1 (mkF m 24 #[rv u1, iv 3, iv u2, rv u3, rv w2] [(.int 3)]) _
    refine XS.ifNo X1.here hx rfl (hb hby d4_24) rfl ((if0 _ _).trans (tlt (by decide : (0 : Int32) < (3 : Int32))).2.2.2) ?_
    show SF p e below T1 (mkF m 27 #[rv u1, iv 3, iv u2, rv u3, rv w2] []) _
    refine XS.aloadN X1.here hx rfl (hb hby d4_27) rfl rfl ?_
    show SF p e below T1 (mkF m 28 #[rv u1, iv 3, iv u2, rv u3, rv w2] [(.ref u1)]) _
    refine XS.aload X1.here hx rfl (hb hby d4_28) rfl rfl ?_
    show SF p e below T1 (mkF m 30 #[rv u1, iv 3, iv u2, rv u3, rv w2] [(.ref w2), (.ref u1)]) _
    refine st2.trans ?_
    show SF p e below T2 (mkF m 33 #[rv u1, iv 3, iv u2, rv u3, rv w2] [w8x]) _
    refine XS.pop X2.here hx rfl (hb hby d4_33) rfl (by rcases ref_cases bx_vx11 with h | ⟨_, h⟩ <;> subst h <;> rfl) ?_
    show SF p e below T2 (mkF m 34 #[rv u1, iv 3, iv u2, rv u3, rv w2] []) _
    refine XS.iloadN X2.here hx rfl (hb hby d4_34) rfl ?_
    show SF p e below T2 (mkF m 35 #[rv u1, iv 3, iv u2, rv u3, rv w2] [(.int 3)]) _
    refine XS.iconst X2.here hx rfl (hb hby d4_35) ?_
    show SF p e below T2 (mkF m 36 #[rv u1, iv 3, iv u2, rv u3, rv w2] [(.int 1), (.int 3)]) _
    refine XS.isub X2.here hx rfl (hb hby d4_36) rfl ?_
    show SF p e below T2 (mkF m 37 #[rv u1, iv 3, iv u2, rv u3, rv w2] [(.int ((3 : Int32) - (1 : Int32)))]) _
    rw [show ((3 : Int32) - (1 : Int32)) = (2 : Int32) from by decide]
    show SF p e below T2 (mkF m 37 #[rv u1, iv 3, iv u2, rv u3, rv w2] [(.int 2)]) _
    exact retI X2 hx Bd.returns (hb hby d4_37) hr
  · show Q4_22 Z u1 u2 u3 w2 u4 u5 u6 h0 n0 _ T2.heap _
    exact ⟨e1x, bx_i12, rfl, N2, K2, Fq2_1, Fq2_0, Fq2_4, Fq2_2, Fq2_3, Fq2_5⟩
set_option maxRecDepth 65536 in
set_option maxHeartbeats 400000000 in
theorem pc_3 {p : Program} {l : Launch} {e : Env} {s : State} {m : MethodId} {below : List Frame} {meth : Method} {c : Code} {T0 : State} {locs : List Loc} {Z : State} {a0 : Array Value} {h0 : Heap} {n0 : Nat} {p0s : Int32} {p1s : Int32} {p2s : Int32} {p3s : Int32} {w1 : Addr} {w2 : Addr} {o1 : Addr} {o2 : Addr} {kk1 : ClassId} {o3 : Addr} {kk2 : ClassId} {ii1 : Int32} (X0 : Stand p l e room_1 s m #[(.int p0s), (.int p1s), (.int p2s), (.int p3s)] below meth c T0 locs 3 12) (hx : p.tables.exec = Jvm.exec) (hZ : Z.Warmed39 s.vm) (hw : HW Z a0) (hby : c.code = code) (hml : c.maxLocals = 8) (hown : s.vm.findClass "com/example/afterlog/afterlog/ListValueIsEmptyPinLaw" = some m.cls) (hre : meth.sig.returnType = some .boolean) (hlk : meth.locks = false) (e0 : T0.heap = h0) (N0 : Fr n0 locs) (Z0 : n0 ≤ h0.size) (O0 : Old Z n0 h0) (Sg0 : Sta Z Z.heap "com/example/afterlog/afterlog/ListValue$End" "TAIL" "Lcom/example/afterlog/afterlog/ListValue$End;" (.ref w1)) (E_w1 : Exa Z Z.heap w1 "com/example/afterlog/afterlog/ListValue$End") (Sg2 : Sta Z Z.heap "com/example/afterlog/afterlog/ListValue$End" "HEAD" "Lcom/example/afterlog/afterlog/ListValue$End;" (.ref w2)) (E_w2 : Exa Z Z.heap w2 "com/example/afterlog/afterlog/ListValue$End") (F_w1_ordinal : Fld Z Z.heap w1 "java/lang/Enum" "ordinal" "I" (.int 1)) (F_w2_ordinal : Fld Z Z.heap w2 "java/lang/Enum" "ordinal" "I" (.int 0)) (P1 : Arv Z h0 o1 kk1 .byte (1 : Int32) [(.int (nar .byte ((p0s &&& (127 : Int32)).toInt8.toInt32)))] (.int (0 : Int32))) (P2 : Exa Z h0 o1 "[B") (P3 : Exa Z h0 o2 "com/example/afterlog/afterlog/ListValue") (P4 : Fld Z h0 o2 "com/example/afterlog/afterlog/ListValue" "elements" "[[B" (.ref o3)) (P5 : Fld Z h0 o2 "com/example/afterlog/afterlog/ListValue" "head" "I" (.int ii1)) (P6 : Fld Z h0 o2 "com/example/afterlog/afterlog/ListValue" "size" "I" (.int 3)) (P7 : Ary Z h0 o3 kk2 (.array .byte) (8 : Int32)) (P8 : OvrA Z kk2 .byte "[B") (P9 : Exa Z h0 o3 "[[B") (P10 : ¬ ii1 < (0 : Int32) ∧ ii1 < (8 : Int32)) (P11 : n0 ≤ o1) (P12 : o1 < h0.size) (P13 : n0 ≤ o2) (P14 : o2 < h0.size) (P15 : n0 ≤ o3) (P16 : o3 < h0.size) (P17 : o1 ≠ o2) (P18 : o1 ≠ o3) (P19 : o2 ≠ o3) :
    Fine p e below s n0 (T0.setTop (mkF m 159 #[iv p0s, iv p1s, iv p2s, iv p3s, rv o1, rv o2, iv 1, iv 3] [])) := by
  have pre0 : ∀ t, SF p e below T0 (mkF m 166 #[iv p0s, iv p1s, iv p2s, iv p3s, rv o1, rv o2, iv 1, iv 3] [(.ref o1), (.int p3s), (.int 3), (.ref o2)]) t → SF p e below T0 (mkF m 159 #[iv p0s, iv p1s, iv p2s, iv p3s, rv o1, rv o2, iv 1, iv 3] []) t := fun t k => by
    show SF p e below T0 (mkF m 159 #[iv p0s, iv p1s, iv p2s, iv p3s, rv o1, rv o2, iv 1, iv 3] []) _
    refine XS.aload X0.here hx rfl (hb hby at_159) rfl rfl ?_
    show SF p e below T0 (mkF m 161 #[iv p0s, iv p1s, iv p2s, iv p3s, rv o1, rv o2, iv 1, iv 3] [(.ref o2)]) _
    refine XS.iload X0.here hx rfl (hb hby at_161) rfl ?_
    show SF p e below T0 (mkF m 163 #[iv p0s, iv p1s, iv p2s, iv p3s, rv o1, rv o2, iv 1, iv 3] [(.int 3), (.ref o2)]) _
    refine XS.iloadN X0.here hx rfl (hb hby at_163) rfl ?_
    show SF p e below T0 (mkF m 164 #[iv p0s, iv p1s, iv p2s, iv p3s, rv o1, rv o2, iv 1, iv 3] [(.int p3s), (.int 3), (.ref o2)]) _
    refine XS.aload X0.here hx rfl (hb hby at_164) rfl rfl ?_
    exact k
  by_cases hc1 : (p3s &&& (2 : Int32)) = (0 : Int32)
  · by_cases hc2 : (p3s &&& (1 : Int32)) = (0 : Int32)
    · obtain ⟨_, _, ⟨T1, L1, k1x, n1⟩, -, X1, ⟨Lc1, hQ1, l1, y1, z1⟩, st1⟩ := Jvm.LawKit.callS X0 hx (y := (⟨"com/example/afterlog/afterlog/ListValueIsEmptyPinLaw", "step", "(Lcom/example/afterlog/afterlog/ListValue;II[B)I"⟩ : MethodName)) hown (mvT hZ (tw hw 21 rfl)) (mvT hZ (tw hw 22 rfl)) (mvT hZ (tw hw 23 rfl)) (mvT hZ (tw hw 24 rfl)) (by decide) (backOf (W := 0) (rm4_15 l Z a0 hw [] o2 p3s o1 w1 o3 kk2 w2 ii1 h0 n0 Z0 hc1 Sg0 O0 hc2 P3 P6 P4 P7 Sg2 F_w1_ordinal F_w2_ordinal P5 P10 P9 P8 P2 P15 P19 P13) hZ (tw hw 24 rfl) (tw hw 23 rfl) (by decide) (by decide)) (g := (mkF m 166 #[iv p0s, iv p1s, iv p2s, iv p3s, rv o1, rv o2, iv 1, iv 3] [(.ref o1), (.int p3s), (.int 3), (.ref o2)])) rfl (by rw [hml]; rfl) (argsL := [(.ref o2), (.int 3), (.int p3s), (.ref o1)]) (rest := []) (lenOf pd_4 rfl) rfl (by show 2 * 0 + _ ≤ _; exact Nat.le_of_eq rfl) (hb hby at_166) (fun _ _ => ⟨rfl, e0, (by decide : 3 + 0 ≤ _), (by decide : 12 + 0 ≤ _)⟩)
      dsimp only [Pt.U, Pt.locs, Pt.cells, Pt.slots] at X1 l1 y1 z1 st1 hQ1
      subst l1 y1 z1
      obtain ⟨rfl, N1q, K1c, Fq1_0, Fq1_1, Fq1_2, Fq1_3, Fq1_4, Fq1_5⟩ := hQ1
      have N1 := Fr.app N0 N1q
      have Z1 : n0 ≤ T1.heap.size := Nat.le_trans Z0 K1c.1
      obtain ⟨cq2, kq2, q2a, q2b, q2c⟩ := isOf hZ rfl Fq1_2
      obtain ⟨_, _, ⟨T2, L2, k2x, n2⟩, -, X2, ⟨Lc2, hQ2, l2, y2, z2⟩, st2⟩ := X1.virtualBack hx (y := (⟨"com/example/afterlog/afterlog/ListValue", "isEmpty", "()Z"⟩ : MethodName)) (z := (⟨"com/example/afterlog/afterlog/ListValue", "isEmpty", "()Z"⟩ : MethodName)) hown (mvT hZ (tw hw 14 rfl)) (mvT hZ (tw hw 15 rfl)) (notFace_of_selects (args := #[]) (mvT hZ (tw hw 17 rfl))) (mvT hZ (tw hw 17 rfl)) (mvT hZ (tw hw 16 rfl)) (by decide) (backOf (W := 0) (rm3_16 l Z a0 hw [] o2 T1.heap n0 Z1 Fq1_3) hZ (tw hw 18 rfl) (tw hw 3 rfl) (by decide) (by decide)) q2a q2c (g := (mkF m 178 #[iv p0s, iv p1s, iv p2s, iv p3s, rv o1, rv o2, iv 1, iv 4] [(.ref o2)])) rfl (by rw [hml]; rfl) (Steps.refl _) (argsL := []) (rest := []) (lenOf pd_1 rfl) rfl (by show 2 * 0 + _ ≤ _; exact Nat.le_of_eq rfl) (hb hby at_178) (fun _ _ => ⟨rfl, rfl, (by decide : 3 + 0 ≤ _), (by decide : 12 + 0 ≤ _)⟩)
      dsimp only [Pt.U, Pt.locs, Pt.cells, Pt.slots] at X2 l2 y2 z2 st2 hQ2
      subst l2 y2 z2
      obtain ⟨rfl, N2q, e2⟩ := hQ2
      have N2 := Fr.app N1 N2q
      obtain ⟨fs, hr, hrun, hended, hW, hsame⟩ := X2.leave (v := some (.int (1 : Int32))) (fun h => by rw [hre] at h; cases h)
      refine ⟨_, _, pre0 _ (?_), hrun, hended, _, _, rfl, ?_, ⟨_, rfl⟩, hW, hsame.mono (by decide) (by decide)⟩
      · show SF p e below T0 (mkF m 166 #[iv p0s, iv p1s, iv p2s, iv p3s, rv o1, rv o2, iv 1, iv 3] [(.ref o1), (.int p3s), (.int 3), (.ref o2)]) _
        refine st1 _ ?_
        show SF p e below T1 (mkF m 169 #[iv p0s, iv p1s, iv p2s, iv p3s, rv o1, rv o2, iv 1, iv 3] [(.int 4)]) _
        refine XS.istore X1.here hx rfl (hb hby at_169) rfl (l' := #[iv p0s, iv p1s, iv p2s, iv p3s, rv o1, rv o2, iv 1, iv 4]) rfl ?_
        show SF p e below T1 (mkF m 171 #[iv p0s, iv p1s, iv p2s, iv p3s, rv o1, rv o2, iv 1, iv 4] []) _
        refine XS.iload X1.here hx rfl (hb hby at_171) rfl ?_
        show SF p e below T1 (mkF m 173 #[iv p0s, iv p1s, iv p2s, iv p3s, rv o1, rv o2, iv 1, iv 4] [(.int 1)]) _
        refine XS.ifNo X1.here hx rfl (hb hby at_173) rfl ((if0 _ _).trans (feq (by decide : ¬ ((1 : Int32) = (0 : Int32)))).1) ?_
        show SF p e below T1 (mkF m 176 #[iv p0s, iv p1s, iv p2s, iv p3s, rv o1, rv o2, iv 1, iv 4] []) _
        refine XS.aload X1.here hx rfl (hb hby at_176) rfl rfl ?_
        show SF p e below T1 (mkF m 178 #[iv p0s, iv p1s, iv p2s, iv p3s, rv o1, rv o2, iv 1, iv 4] [(.ref o2)]) _
        refine st2.trans ?_
        show SF p e below T2 (mkF m 181 #[iv p0s, iv p1s, iv p2s, iv p3s, rv o1, rv o2, iv 1, iv 4] [(.int 0)]) _
        refine XS.iload X2.here hx rfl (hb hby at_181) rfl ?_
        show SF p e below T2 (mkF m 183 #[iv p0s, iv p1s, iv p2s, iv p3s, rv o1, rv o2, iv 1, iv 4] [(.int 4), (.int 0)]) _
        refine XS.ifYes X2.here hx rfl (pc0 := 183) (pc' := 190) rfl (hb hby at_183) rfl ((if0 _ _).trans (feq (by decide : ¬ ((4 : Int32) = (0 : Int32)))).2) (by decide) (by decide) ?_
        show SF p e below T2 (mkF m 190 #[iv p0s, iv p1s, iv p2s, iv p3s, rv o1, rv o2, iv 1, iv 4] [(.int 0)]) _
        refine XS.iconst X2.here hx rfl (hb hby at_190) ?_
        show SF p e below T2 (mkF m 191 #[iv p0s, iv p1s, iv p2s, iv p3s, rv o1, rv o2, iv 1, iv 4] [(.int 0), (.int 0)]) _
        refine XS.icmpNo X2.here hx rfl (hb hby at_191) rfl (teq (by decide : (0 : Int32) = (0 : Int32))).2 ?_
        show SF p e below T2 (mkF m 194 #[iv p0s, iv p1s, iv p2s, iv p3s, rv o1, rv o2, iv 1, iv 4] []) _
        refine XS.iconst X2.here hx rfl (hb hby at_194) ?_
        show SF p e below T2 (mkF m 195 #[iv p0s, iv p1s, iv p2s, iv p3s, rv o1, rv o2, iv 1, iv 4] [(.int 1)]) _
        refine XS.goto X2.here hx rfl (pc0 := 195) (pc' := 199) rfl (hb hby at_195) (by decide) (by decide) ?_
        show SF p e below T2 (mkF m 199 #[iv p0s, iv p1s, iv p2s, iv p3s, rv o1, rv o2, iv 1, iv 4] [(.int 1)]) _
        refine XS.istore X2.here hx rfl (hb hby at_199) rfl (l' := #[iv p0s, iv p1s, iv p2s, iv p3s, rv o1, rv o2, iv 1, iv 4]) rfl ?_
        show SF p e below T2 (mkF m 201 #[iv p0s, iv p1s, iv p2s, iv p3s, rv o1, rv o2, iv 1, iv 4] []) _
        refine XS.iload X2.here hx rfl (hb hby at_201) rfl ?_
        show SF p e below T2 (mkF m 203 #[iv p0s, iv p1s, iv p2s, iv p3s, rv o1, rv o2, iv 1, iv 4] [(.int 1)]) _
        exact retN X2 hx (t := .boolean) hre (by simp) (hb hby at_203) hr
      · exact ⟨rfl, N2⟩
    · obtain ⟨_, _, ⟨T1, L1, k1x, n1⟩, -, X1, ⟨Lc1, hQ1, l1, y1, z1⟩, st1⟩ := Jvm.LawKit.callS X0 hx (y := (⟨"com/example/afterlog/afterlog/ListValueIsEmptyPinLaw", "step", "(Lcom/example/afterlog/afterlog/ListValue;II[B)I"⟩ : MethodName)) hown (mvT hZ (tw hw 21 rfl)) (mvT hZ (tw hw 22 rfl)) (mvT hZ (tw hw 23 rfl)) (mvT hZ (tw hw 24 rfl)) (by decide) (backOf (W := 0) (rm4_18 l Z a0 hw [] o2 p3s o1 w1 w2 o3 ii1 kk2 h0 n0 Z0 hc1 Sg0 O0 hc2 P3 Sg2 F_w1_ordinal F_w2_ordinal P6 P4 P5 P7 P10 P9 P15 P19 P13) hZ (tw hw 24 rfl) (tw hw 23 rfl) (by decide) (by decide)) (g := (mkF m 166 #[iv p0s, iv p1s, iv p2s, iv p3s, rv o1, rv o2, iv 1, iv 3] [(.ref o1), (.int p3s), (.int 3), (.ref o2)])) rfl (by rw [hml]; rfl) (argsL := [(.ref o2), (.int 3), (.int p3s), (.ref o1)]) (rest := []) (lenOf pd_4 rfl) rfl (by show 2 * 0 + _ ≤ _; exact Nat.le_of_eq rfl) (hb hby at_166) (fun _ _ => ⟨rfl, e0, (by decide : 3 + 0 ≤ _), (by decide : 12 + 0 ≤ _)⟩)
      dsimp only [Pt.U, Pt.locs, Pt.cells, Pt.slots] at X1 l1 y1 z1 st1 hQ1
      subst l1 y1 z1
      obtain ⟨rfl, N1q, K1c, Fq1_0, Fq1_1, Fq1_2, Fq1_3, Fq1_4, Fq1_5⟩ := hQ1
      have N1 := Fr.app N0 N1q
      have Z1 : n0 ≤ T1.heap.size := Nat.le_trans Z0 K1c.1
      obtain ⟨cq2, kq2, q2a, q2b, q2c⟩ := isOf hZ rfl Fq1_2
      obtain ⟨_, _, ⟨T2, L2, k2x, n2⟩, -, X2, ⟨Lc2, hQ2, l2, y2, z2⟩, st2⟩ := X1.virtualBack hx (y := (⟨"com/example/afterlog/afterlog/ListValue", "isEmpty", "()Z"⟩ : MethodName)) (z := (⟨"com/example/afterlog/afterlog/ListValue", "isEmpty", "()Z"⟩ : MethodName)) hown (mvT hZ (tw hw 14 rfl)) (mvT hZ (tw hw 15 rfl)) (notFace_of_selects (args := #[]) (mvT hZ (tw hw 17 rfl))) (mvT hZ (tw hw 17 rfl)) (mvT hZ (tw hw 16 rfl)) (by decide) (backOf (W := 0) (rm3_10 l Z a0 hw [] o2 T1.heap n0 Z1 Fq1_3) hZ (tw hw 18 rfl) (tw hw 3 rfl) (by decide) (by decide)) q2a q2c (g := (mkF m 178 #[iv p0s, iv p1s, iv p2s, iv p3s, rv o1, rv o2, iv 1, iv 2] [(.ref o2)])) rfl (by rw [hml]; rfl) (Steps.refl _) (argsL := []) (rest := []) (lenOf pd_1 rfl) rfl (by show 2 * 0 + _ ≤ _; exact Nat.le_of_eq rfl) (hb hby at_178) (fun _ _ => ⟨rfl, rfl, (by decide : 3 + 0 ≤ _), (by decide : 12 + 0 ≤ _)⟩)
      dsimp only [Pt.U, Pt.locs, Pt.cells, Pt.slots] at X2 l2 y2 z2 st2 hQ2
      subst l2 y2 z2
      obtain ⟨rfl, N2q, e2⟩ := hQ2
      have N2 := Fr.app N1 N2q
      obtain ⟨fs, hr, hrun, hended, hW, hsame⟩ := X2.leave (v := some (.int (1 : Int32))) (fun h => by rw [hre] at h; cases h)
      refine ⟨_, _, pre0 _ (?_), hrun, hended, _, _, rfl, ?_, ⟨_, rfl⟩, hW, hsame.mono (by decide) (by decide)⟩
      · show SF p e below T0 (mkF m 166 #[iv p0s, iv p1s, iv p2s, iv p3s, rv o1, rv o2, iv 1, iv 3] [(.ref o1), (.int p3s), (.int 3), (.ref o2)]) _
        refine st1 _ ?_
        show SF p e below T1 (mkF m 169 #[iv p0s, iv p1s, iv p2s, iv p3s, rv o1, rv o2, iv 1, iv 3] [(.int 2)]) _
        refine XS.istore X1.here hx rfl (hb hby at_169) rfl (l' := #[iv p0s, iv p1s, iv p2s, iv p3s, rv o1, rv o2, iv 1, iv 2]) rfl ?_
        show SF p e below T1 (mkF m 171 #[iv p0s, iv p1s, iv p2s, iv p3s, rv o1, rv o2, iv 1, iv 2] []) _
        refine XS.iload X1.here hx rfl (hb hby at_171) rfl ?_
        show SF p e below T1 (mkF m 173 #[iv p0s, iv p1s, iv p2s, iv p3s, rv o1, rv o2, iv 1, iv 2] [(.int 1)]) _
        refine XS.ifNo X1.here hx rfl (hb hby at_173) rfl ((if0 _ _).trans (feq (by decide : ¬ ((1 : Int32) = (0 : Int32)))).1) ?_
        show SF p e below T1 (mkF m 176 #[iv p0s, iv p1s, iv p2s, iv p3s, rv o1, rv o2, iv 1, iv 2] []) _
        refine XS.aload X1.here hx rfl (hb hby at_176) rfl rfl ?_
        show SF p e below T1 (mkF m 178 #[iv p0s, iv p1s, iv p2s, iv p3s, rv o1, rv o2, iv 1, iv 2] [(.ref o2)]) _
        refine st2.trans ?_
        show SF p e below T2 (mkF m 181 #[iv p0s, iv p1s, iv p2s, iv p3s, rv o1, rv o2, iv 1, iv 2] [(.int 0)]) _
        refine XS.iload X2.here hx rfl (hb hby at_181) rfl ?_
        show SF p e below T2 (mkF m 183 #[iv p0s, iv p1s, iv p2s, iv p3s, rv o1, rv o2, iv 1, iv 2] [(.int 2), (.int 0)]) _
        refine XS.ifYes X2.here hx rfl (pc0 := 183) (pc' := 190) rfl (hb hby at_183) rfl ((if0 _ _).trans (feq (by decide : ¬ ((2 : Int32) = (0 : Int32)))).2) (by decide) (by decide) ?_
        show SF p e below T2 (mkF m 190 #[iv p0s, iv p1s, iv p2s, iv p3s, rv o1, rv o2, iv 1, iv 2] [(.int 0)]) _
        refine XS.iconst X2.here hx rfl (hb hby at_190) ?_
        show SF p e below T2 (mkF m 191 #[iv p0s, iv p1s, iv p2s, iv p3s, rv o1, rv o2, iv 1, iv 2] [(.int 0), (.int 0)]) _
        refine XS.icmpNo X2.here hx rfl (hb hby at_191) rfl (teq (by decide : (0 : Int32) = (0 : Int32))).2 ?_
        show SF p e below T2 (mkF m 194 #[iv p0s, iv p1s, iv p2s, iv p3s, rv o1, rv o2, iv 1, iv 2] []) _
        refine XS.iconst X2.here hx rfl (hb hby at_194) ?_
        show SF p e below T2 (mkF m 195 #[iv p0s, iv p1s, iv p2s, iv p3s, rv o1, rv o2, iv 1, iv 2] [(.int 1)]) _
        refine XS.goto X2.here hx rfl (pc0 := 195) (pc' := 199) rfl (hb hby at_195) (by decide) (by decide) ?_
        show SF p e below T2 (mkF m 199 #[iv p0s, iv p1s, iv p2s, iv p3s, rv o1, rv o2, iv 1, iv 2] [(.int 1)]) _
        refine XS.istore X2.here hx rfl (hb hby at_199) rfl (l' := #[iv p0s, iv p1s, iv p2s, iv p3s, rv o1, rv o2, iv 1, iv 2]) rfl ?_
        show SF p e below T2 (mkF m 201 #[iv p0s, iv p1s, iv p2s, iv p3s, rv o1, rv o2, iv 1, iv 2] []) _
        refine XS.iload X2.here hx rfl (hb hby at_201) rfl ?_
        show SF p e below T2 (mkF m 203 #[iv p0s, iv p1s, iv p2s, iv p3s, rv o1, rv o2, iv 1, iv 2] [(.int 1)]) _
        exact retN X2 hx (t := .boolean) hre (by simp) (hb hby at_203) hr
      · exact ⟨rfl, N2⟩
  · by_cases hc2 : (p3s &&& (1 : Int32)) = (0 : Int32)
    · obtain ⟨_, _, ⟨T1, L1, k1x, n1⟩, -, X1, ⟨Lc1, hQ1, l1, y1, z1⟩, st1⟩ := Jvm.LawKit.callS X0 hx (y := (⟨"com/example/afterlog/afterlog/ListValueIsEmptyPinLaw", "step", "(Lcom/example/afterlog/afterlog/ListValue;II[B)I"⟩ : MethodName)) hown (mvT hZ (tw hw 21 rfl)) (mvT hZ (tw hw 22 rfl)) (mvT hZ (tw hw 23 rfl)) (mvT hZ (tw hw 24 rfl)) (by decide) (backOf (W := 0) (rm4_20 l Z a0 hw [] o2 p3s o1 w2 o3 kk2 ii1 h0 n0 Z0 hc1 Sg2 O0 hc2 P3 P6 P4 P7 P5 P10 P13 P9 (Ne.symm P19) P8 P2 P15) hZ (tw hw 24 rfl) (tw hw 23 rfl) (by decide) (by decide)) (g := (mkF m 166 #[iv p0s, iv p1s, iv p2s, iv p3s, rv o1, rv o2, iv 1, iv 3] [(.ref o1), (.int p3s), (.int 3), (.ref o2)])) rfl (by rw [hml]; rfl) (argsL := [(.ref o2), (.int 3), (.int p3s), (.ref o1)]) (rest := []) (lenOf pd_4 rfl) rfl (by show 2 * 0 + _ ≤ _; exact Nat.le_of_eq rfl) (hb hby at_166) (fun _ _ => ⟨rfl, e0, (by decide : 3 + 0 ≤ _), (by decide : 12 + 0 ≤ _)⟩)
      dsimp only [Pt.U, Pt.locs, Pt.cells, Pt.slots] at X1 l1 y1 z1 st1 hQ1
      subst l1 y1 z1
      obtain ⟨i11, bx_i11, rfl, N1q, K1c, Fq1_0, Fq1_1, Fq1_2, Fq1_3, Fq1_4, Fq1_5⟩ := hQ1
      have N1 := Fr.app N0 N1q
      have Z1 : n0 ≤ T1.heap.size := Nat.le_trans Z0 K1c.1
      obtain ⟨cq2, kq2, q2a, q2b, q2c⟩ := isOf hZ rfl Fq1_0
      obtain ⟨_, _, ⟨T2, L2, k2x, n2⟩, -, X2, ⟨Lc2, hQ2, l2, y2, z2⟩, st2⟩ := X1.virtualBack hx (y := (⟨"com/example/afterlog/afterlog/ListValue", "isEmpty", "()Z"⟩ : MethodName)) (z := (⟨"com/example/afterlog/afterlog/ListValue", "isEmpty", "()Z"⟩ : MethodName)) hown (mvT hZ (tw hw 14 rfl)) (mvT hZ (tw hw 15 rfl)) (notFace_of_selects (args := #[]) (mvT hZ (tw hw 17 rfl))) (mvT hZ (tw hw 17 rfl)) (mvT hZ (tw hw 16 rfl)) (by decide) (backOf (W := 0) (rm3_16 l Z a0 hw [] o2 T1.heap n0 Z1 Fq1_1) hZ (tw hw 18 rfl) (tw hw 3 rfl) (by decide) (by decide)) q2a q2c (g := (mkF m 178 #[iv p0s, iv p1s, iv p2s, iv p3s, rv o1, rv o2, iv 1, iv 4] [(.ref o2)])) rfl (by rw [hml]; rfl) (Steps.refl _) (argsL := []) (rest := []) (lenOf pd_1 rfl) rfl (by show 2 * 0 + _ ≤ _; exact Nat.le_of_eq rfl) (hb hby at_178) (fun _ _ => ⟨rfl, rfl, (by decide : 3 + 0 ≤ _), (by decide : 12 + 0 ≤ _)⟩)
      dsimp only [Pt.U, Pt.locs, Pt.cells, Pt.slots] at X2 l2 y2 z2 st2 hQ2
      subst l2 y2 z2
      obtain ⟨rfl, N2q, e2⟩ := hQ2
      have N2 := Fr.app N1 N2q
      obtain ⟨fs, hr, hrun, hended, hW, hsame⟩ := X2.leave (v := some (.int (1 : Int32))) (fun h => by rw [hre] at h; cases h)
      refine ⟨_, _, pre0 _ (?_), hrun, hended, _, _, rfl, ?_, ⟨_, rfl⟩, hW, hsame.mono (by decide) (by decide)⟩
      · show SF p e below T0 (mkF m 166 #[iv p0s, iv p1s, iv p2s, iv p3s, rv o1, rv o2, iv 1, iv 3] [(.ref o1), (.int p3s), (.int 3), (.ref o2)]) _
        refine st1 _ ?_
        show SF p e below T1 (mkF m 169 #[iv p0s, iv p1s, iv p2s, iv p3s, rv o1, rv o2, iv 1, iv 3] [(.int 4)]) _
        refine XS.istore X1.here hx rfl (hb hby at_169) rfl (l' := #[iv p0s, iv p1s, iv p2s, iv p3s, rv o1, rv o2, iv 1, iv 4]) rfl ?_
        show SF p e below T1 (mkF m 171 #[iv p0s, iv p1s, iv p2s, iv p3s, rv o1, rv o2, iv 1, iv 4] []) _
        refine XS.iload X1.here hx rfl (hb hby at_171) rfl ?_
        show SF p e below T1 (mkF m 173 #[iv p0s, iv p1s, iv p2s, iv p3s, rv o1, rv o2, iv 1, iv 4] [(.int 1)]) _
        refine XS.ifNo X1.here hx rfl (hb hby at_173) rfl ((if0 _ _).trans (feq (by decide : ¬ ((1 : Int32) = (0 : Int32)))).1) ?_
        show SF p e below T1 (mkF m 176 #[iv p0s, iv p1s, iv p2s, iv p3s, rv o1, rv o2, iv 1, iv 4] []) _
        refine XS.aload X1.here hx rfl (hb hby at_176) rfl rfl ?_
        show SF p e below T1 (mkF m 178 #[iv p0s, iv p1s, iv p2s, iv p3s, rv o1, rv o2, iv 1, iv 4] [(.ref o2)]) _
        refine st2.trans ?_
        show SF p e below T2 (mkF m 181 #[iv p0s, iv p1s, iv p2s, iv p3s, rv o1, rv o2, iv 1, iv 4] [(.int 0)]) _
        refine XS.iload X2.here hx rfl (hb hby at_181) rfl ?_
        show SF p e below T2 (mkF m 183 #[iv p0s, iv p1s, iv p2s, iv p3s, rv o1, rv o2, iv 1, iv 4] [(.int 4), (.int 0)]) _
        refine XS.ifYes X2.here hx rfl (pc0 := 183) (pc' := 190) rfl (hb hby at_183) rfl ((if0 _ _).trans (feq (by decide : ¬ ((4 : Int32) = (0 : Int32)))).2) (by decide) (by decide) ?_
        show SF p e below T2 (mkF m 190 #[iv p0s, iv p1s, iv p2s, iv p3s, rv o1, rv o2, iv 1, iv 4] [(.int 0)]) _
        refine XS.iconst X2.here hx rfl (hb hby at_190) ?_
        show SF p e below T2 (mkF m 191 #[iv p0s, iv p1s, iv p2s, iv p3s, rv o1, rv o2, iv 1, iv 4] [(.int 0), (.int 0)]) _
        refine XS.icmpNo X2.here hx rfl (hb hby at_191) rfl (teq (by decide : (0 : Int32) = (0 : Int32))).2 ?_
        show SF p e below T2 (mkF m 194 #[iv p0s, iv p1s, iv p2s, iv p3s, rv o1, rv o2, iv 1, iv 4] []) _
        refine XS.iconst X2.here hx rfl (hb hby at_194) ?_
        show SF p e below T2 (mkF m 195 #[iv p0s, iv p1s, iv p2s, iv p3s, rv o1, rv o2, iv 1, iv 4] [(.int 1)]) _
        refine XS.goto X2.here hx rfl (pc0 := 195) (pc' := 199) rfl (hb hby at_195) (by decide) (by decide) ?_
        show SF p e below T2 (mkF m 199 #[iv p0s, iv p1s, iv p2s, iv p3s, rv o1, rv o2, iv 1, iv 4] [(.int 1)]) _
        refine XS.istore X2.here hx rfl (hb hby at_199) rfl (l' := #[iv p0s, iv p1s, iv p2s, iv p3s, rv o1, rv o2, iv 1, iv 4]) rfl ?_
        show SF p e below T2 (mkF m 201 #[iv p0s, iv p1s, iv p2s, iv p3s, rv o1, rv o2, iv 1, iv 4] []) _
        refine XS.iload X2.here hx rfl (hb hby at_201) rfl ?_
        show SF p e below T2 (mkF m 203 #[iv p0s, iv p1s, iv p2s, iv p3s, rv o1, rv o2, iv 1, iv 4] [(.int 1)]) _
        exact retN X2 hx (t := .boolean) hre (by simp) (hb hby at_203) hr
      · exact ⟨rfl, N2⟩
    · obtain ⟨_, _, ⟨T1, L1, k1x, n1⟩, -, X1, ⟨Lc1, hQ1, l1, y1, z1⟩, st1⟩ := Jvm.LawKit.callS X0 hx (y := (⟨"com/example/afterlog/afterlog/ListValueIsEmptyPinLaw", "step", "(Lcom/example/afterlog/afterlog/ListValue;II[B)I"⟩ : MethodName)) hown (mvT hZ (tw hw 21 rfl)) (mvT hZ (tw hw 22 rfl)) (mvT hZ (tw hw 23 rfl)) (mvT hZ (tw hw 24 rfl)) (by decide) (backOf (W := 0) (rm4_22 l Z a0 hw [] o2 p3s o1 w2 ii1 o3 kk2 h0 n0 Z0 hc1 Sg2 O0 hc2 P3 P5 P4 P7 P10 P9 P15 P19 P6 P13) hZ (tw hw 24 rfl) (tw hw 23 rfl) (by decide) (by decide)) (g := (mkF m 166 #[iv p0s, iv p1s, iv p2s, iv p3s, rv o1, rv o2, iv 1, iv 3] [(.ref o1), (.int p3s), (.int 3), (.ref o2)])) rfl (by rw [hml]; rfl) (argsL := [(.ref o2), (.int 3), (.int p3s), (.ref o1)]) (rest := []) (lenOf pd_4 rfl) rfl (by show 2 * 0 + _ ≤ _; exact Nat.le_of_eq rfl) (hb hby at_166) (fun _ _ => ⟨rfl, e0, (by decide : 3 + 0 ≤ _), (by decide : 12 + 0 ≤ _)⟩)
      dsimp only [Pt.U, Pt.locs, Pt.cells, Pt.slots] at X1 l1 y1 z1 st1 hQ1
      subst l1 y1 z1
      obtain ⟨i13, bx_i13, rfl, N1q, K1c, Fq1_0, Fq1_1, Fq1_2, Fq1_3, Fq1_4, Fq1_5⟩ := hQ1
      have N1 := Fr.app N0 N1q
      have Z1 : n0 ≤ T1.heap.size := Nat.le_trans Z0 K1c.1
      obtain ⟨cq2, kq2, q2a, q2b, q2c⟩ := isOf hZ rfl Fq1_2
      obtain ⟨_, _, ⟨T2, L2, k2x, n2⟩, -, X2, ⟨Lc2, hQ2, l2, y2, z2⟩, st2⟩ := X1.virtualBack hx (y := (⟨"com/example/afterlog/afterlog/ListValue", "isEmpty", "()Z"⟩ : MethodName)) (z := (⟨"com/example/afterlog/afterlog/ListValue", "isEmpty", "()Z"⟩ : MethodName)) hown (mvT hZ (tw hw 14 rfl)) (mvT hZ (tw hw 15 rfl)) (notFace_of_selects (args := #[]) (mvT hZ (tw hw 17 rfl))) (mvT hZ (tw hw 17 rfl)) (mvT hZ (tw hw 16 rfl)) (by decide) (backOf (W := 0) (rm3_10 l Z a0 hw [] o2 T1.heap n0 Z1 Fq1_5) hZ (tw hw 18 rfl) (tw hw 3 rfl) (by decide) (by decide)) q2a q2c (g := (mkF m 178 #[iv p0s, iv p1s, iv p2s, iv p3s, rv o1, rv o2, iv 1, iv 2] [(.ref o2)])) rfl (by rw [hml]; rfl) (Steps.refl _) (argsL := []) (rest := []) (lenOf pd_1 rfl) rfl (by show 2 * 0 + _ ≤ _; exact Nat.le_of_eq rfl) (hb hby at_178) (fun _ _ => ⟨rfl, rfl, (by decide : 3 + 0 ≤ _), (by decide : 12 + 0 ≤ _)⟩)
      dsimp only [Pt.U, Pt.locs, Pt.cells, Pt.slots] at X2 l2 y2 z2 st2 hQ2
      subst l2 y2 z2
      obtain ⟨rfl, N2q, e2⟩ := hQ2
      have N2 := Fr.app N1 N2q
      obtain ⟨fs, hr, hrun, hended, hW, hsame⟩ := X2.leave (v := some (.int (1 : Int32))) (fun h => by rw [hre] at h; cases h)
      refine ⟨_, _, pre0 _ (?_), hrun, hended, _, _, rfl, ?_, ⟨_, rfl⟩, hW, hsame.mono (by decide) (by decide)⟩
      · show SF p e below T0 (mkF m 166 #[iv p0s, iv p1s, iv p2s, iv p3s, rv o1, rv o2, iv 1, iv 3] [(.ref o1), (.int p3s), (.int 3), (.ref o2)]) _
        refine st1 _ ?_
        show SF p e below T1 (mkF m 169 #[iv p0s, iv p1s, iv p2s, iv p3s, rv o1, rv o2, iv 1, iv 3] [(.int 2)]) _
        refine XS.istore X1.here hx rfl (hb hby at_169) rfl (l' := #[iv p0s, iv p1s, iv p2s, iv p3s, rv o1, rv o2, iv 1, iv 2]) rfl ?_
        show SF p e below T1 (mkF m 171 #[iv p0s, iv p1s, iv p2s, iv p3s, rv o1, rv o2, iv 1, iv 2] []) _
        refine XS.iload X1.here hx rfl (hb hby at_171) rfl ?_
        show SF p e below T1 (mkF m 173 #[iv p0s, iv p1s, iv p2s, iv p3s, rv o1, rv o2, iv 1, iv 2] [(.int 1)]) _
        refine XS.ifNo X1.here hx rfl (hb hby at_173) rfl ((if0 _ _).trans (feq (by decide : ¬ ((1 : Int32) = (0 : Int32)))).1) ?_
        show SF p e below T1 (mkF m 176 #[iv p0s, iv p1s, iv p2s, iv p3s, rv o1, rv o2, iv 1, iv 2] []) _
        refine XS.aload X1.here hx rfl (hb hby at_176) rfl rfl ?_
        show SF p e below T1 (mkF m 178 #[iv p0s, iv p1s, iv p2s, iv p3s, rv o1, rv o2, iv 1, iv 2] [(.ref o2)]) _
        refine st2.trans ?_
        show SF p e below T2 (mkF m 181 #[iv p0s, iv p1s, iv p2s, iv p3s, rv o1, rv o2, iv 1, iv 2] [(.int 0)]) _
        refine XS.iload X2.here hx rfl (hb hby at_181) rfl ?_
        show SF p e below T2 (mkF m 183 #[iv p0s, iv p1s, iv p2s, iv p3s, rv o1, rv o2, iv 1, iv 2] [(.int 2), (.int 0)]) _
        refine XS.ifYes X2.here hx rfl (pc0 := 183) (pc' := 190) rfl (hb hby at_183) rfl ((if0 _ _).trans (feq (by decide : ¬ ((2 : Int32) = (0 : Int32)))).2) (by decide) (by decide) ?_
        show SF p e below T2 (mkF m 190 #[iv p0s, iv p1s, iv p2s, iv p3s, rv o1, rv o2, iv 1, iv 2] [(.int 0)]) _
        refine XS.iconst X2.here hx rfl (hb hby at_190) ?_
        show SF p e below T2 (mkF m 191 #[iv p0s, iv p1s, iv p2s, iv p3s, rv o1, rv o2, iv 1, iv 2] [(.int 0), (.int 0)]) _
        refine XS.icmpNo X2.here hx rfl (hb hby at_191) rfl (teq (by decide : (0 : Int32) = (0 : Int32))).2 ?_
        show SF p e below T2 (mkF m 194 #[iv p0s, iv p1s, iv p2s, iv p3s, rv o1, rv o2, iv 1, iv 2] []) _
        refine XS.iconst X2.here hx rfl (hb hby at_194) ?_
        show SF p e below T2 (mkF m 195 #[iv p0s, iv p1s, iv p2s, iv p3s, rv o1, rv o2, iv 1, iv 2] [(.int 1)]) _
        refine XS.goto X2.here hx rfl (pc0 := 195) (pc' := 199) rfl (hb hby at_195) (by decide) (by decide) ?_
        show SF p e below T2 (mkF m 199 #[iv p0s, iv p1s, iv p2s, iv p3s, rv o1, rv o2, iv 1, iv 2] [(.int 1)]) _
        refine XS.istore X2.here hx rfl (hb hby at_199) rfl (l' := #[iv p0s, iv p1s, iv p2s, iv p3s, rv o1, rv o2, iv 1, iv 2]) rfl ?_
        show SF p e below T2 (mkF m 201 #[iv p0s, iv p1s, iv p2s, iv p3s, rv o1, rv o2, iv 1, iv 2] []) _
        refine XS.iload X2.here hx rfl (hb hby at_201) rfl ?_
        show SF p e below T2 (mkF m 203 #[iv p0s, iv p1s, iv p2s, iv p3s, rv o1, rv o2, iv 1, iv 2] [(.int 1)]) _
        exact retN X2 hx (t := .boolean) hre (by simp) (hb hby at_203) hr
      · exact ⟨rfl, N2⟩
-- ListValue.pop 
def Q7_23 (Z : State) (u1 : Addr) (w1 : Addr) (w2 : Addr) (u2 : Addr) (u3 : Int32) (u4 : ClassId) (h0 : Heap) (n0 : Nat) (v : Option Value) (h : Heap) (L : List Loc) : Prop := ∃ e1x : Value, (e1x.isRef = true) ∧ v = some e1x ∧ Fr n0 L ∧ Keep h0 h [u2, u1] ∧ Ary Z h u2 u4 (.array .byte) (8 : Int32) ∧ Exa Z h u2 "[[B" ∧ Fld Z h u1 "com/example/afterlog/afterlog/ListValue" "size" "I" (.int 1) ∧ Exa Z h u1 "com/example/afterlog/afterlog/ListValue" ∧ Fld Z h u1 "com/example/afterlog/afterlog/ListValue" "elements" "[[B" (.ref u2) ∧ Fld Z h u1 "com/example/afterlog/afterlog/ListValue" "head" "I" (.int u3)
set_option maxRecDepth 65536 in
set_option maxHeartbeats 40000000 in
theorem rm7_23 (l : Launch) (Z : State) (a0 : Array Value) (hw : HW Z a0) (ws : List Jvm.Cond) (u1 : Addr) (w1 : Addr) (w2 : Addr) (u2 : Addr) (u3 : Int32) (u4 : ClassId) (h0 : Heap) (n0 : Nat) (Z0 : n0 ≤ h0.size) (Sg2 : Sta Z Z.heap "com/example/afterlog/afterlog/ListValue$End" "HEAD" "Lcom/example/afterlog/afterlog/ListValue$End;" (.ref w2)) (P2 : Old Z n0 h0) (F_w1_ordinal : Fld Z Z.heap w1 "java/lang/Enum" "ordinal" "I" (.int 1)) (F_w2_ordinal : Fld Z Z.heap w2 "java/lang/Enum" "ordinal" "I" (.int 0)) (P5 : Fld Z h0 u1 "com/example/afterlog/afterlog/ListValue" "size" "I" (.int 2)) (P6 : Exa Z h0 u1 "com/example/afterlog/afterlog/ListValue") (P7 : Fld Z h0 u1 "com/example/afterlog/afterlog/ListValue" "elements" "[[B" (.ref u2)) (P8 : Fld Z h0 u1 "com/example/afterlog/afterlog/ListValue" "head" "I" (.int u3)) (P9 : Ary Z h0 u2 u4 (.array .byte) (8 : Int32)) (P10 : ¬ u3 < (0 : Int32) ∧ u3 < (8 : Int32)) (P11 : Exa Z h0 u2 "[[B") (P12 : n0 ≤ u2) (P13 : u1 ≠ u2) (P14 : n0 ≤ u1) :
    MF l Z (⟨"com/example/afterlog/afterlog/ListValue", "pop", "(Lcom/example/afterlog/afterlog/ListValue$End;)[B"⟩ : MethodName) (Jvm.Cond.code (⟨"com/example/afterlog/afterlog/ListValue", "pop", "(Lcom/example/afterlog/afterlog/ListValue$End;)[B"⟩ : MethodName) prog_24_method_7_code 4 (some (.array .byte))) ws ({ frames := 1, cells := 0, slots := 0, locals := 14 } : Room) #[(.ref u1), (.ref w1)] h0 (Q7_23 Z u1 w1 w2 u2 u3 u4 h0 n0) := by
  refine MetFree.of_bodySF (plainFor_of_name pn_0) hisR ?_
  intro p e s m args below meth c s₁ Bd hml0 hP hK
  obtain ⟨rfl, hZ, hh⟩ := hP
  have hx := Bd.exec
  have hby := Bd.bytes
  have hml : c.maxLocals = 4 := hml0
  have hown : s.vm.findClass "com/example/afterlog/afterlog/ListValue" = some m.cls := findClass_of_methodNamed Bd.named
  have hnm := (name_of_methodNamed Bd.named Bd.method).1
  have X0 : Stand p l e ({ frames := 1, cells := 0, slots := 0, locals := 14 } : Room) s m #[(.ref u1), (.ref w1)] below meth c s₁ [] 0 0 := Stand.of_body Bd
  have e0 : s₁.heap = h0 := by rw [← hh, Bd.state]; rfl
  have N0 := Fr.nil n0
  have pre0 : ∀ t, SF p e below s₁ (mkF m 0 #[rv u1, rv w1, .unset, .unset] []) t → SF p e below s₁ (entryFrame m #[(.ref u1), (.ref w1)] 4) t := fun t k => castTop (ef_5 m u1 w1) k
  obtain ⟨T1, X1, e1, st1⟩ := getS2 X0 hx hZ hown (host := "") (Or.inl (tw hw 33 rfl)) Via.refl e0 (Sg2.ext P2.2) (g := (mkF m 1 #[rv u1, rv w1, .unset, .unset] [(.ref w1)])) rfl (hb hby d7_1)
  obtain ⟨T2, X2, e2, st2⟩ := getF X1 hx hZ hown (host := "") (Or.inl (tw hw 19 rfl)) Via.refl e1 P5 (g := (mkF m 16 #[rv u1, rv w1, .unset, .unset] [(.ref u1), (.ref u1)])) rfl rfl (hb hby d7_16)
  obtain ⟨cq3, q3, q3'⟩ := P6.cell
  obtain ⟨_, _, ⟨T3, L3, k3x, n3⟩, -, X3, ⟨Lc3, hQ3, l3, y3, z3⟩, st3⟩ := X2.privateBack hx (y := (⟨"com/example/afterlog/afterlog/ListValue", "slot", "(I)I"⟩ : MethodName)) hown (mvT hZ (tw hw 35 rfl)) (mvT hZ (tw hw 36 rfl)) (own_selP hZ (tw hw 2 rfl) (tw hw 37 rfl) (tw hw 36 rfl) (by decide)) (Cond.privateMethod_at (mvP hZ (tw hw 37 rfl) (args := #[]))) (mvT hZ (tw hw 38 rfl)) (by decide) (backOf (W := 0) (own_slot l Z a0 hw [] u1 u2 u4 u3 (1 : Int32) h0 n0 Z0 P7 P8 P9 P10 ⟨by decide, by decide⟩) hZ (tw hw 38 rfl) (tw hw 3 rfl) (by decide) (by decide)) (g := (mkF m 21 #[rv u1, rv w1, .unset, .unset] [(.int 1), (.ref u1)])) rfl (by rw [hml]; rfl) (Steps.refl _) (a := u1) (by rw [e2]; exact q3) q3' (argsL := [(.int 1)]) (rest := []) (lenOf pd_2 rfl) rfl (by show 2 * 0 + _ ≤ _; exact Nat.le_of_eq rfl) (hb hby d7_21) (fun _ _ => ⟨rfl, e2, (by decide : 0 + 0 ≤ _), (by decide : 0 + 0 ≤ _)⟩)
  dsimp only [Pt.U, Pt.locs, Pt.cells, Pt.slots] at X3 l3 y3 z3 st3 hQ3
  subst l3 y3 z3
  obtain ⟨w6x, bx_i8, rfl, N3q, e3⟩ := hQ3
  have N3 := Fr.app N0 N3q
  obtain ⟨T4, X4, e4, st4⟩ := getF X3 hx hZ hown (host := "") (Or.inl (tw hw 12 rfl)) Via.refl e3 P7 (g := (mkF m 26 #[rv u1, rv w1, iv w6x, .unset] [(.ref u1)])) rfl rfl (hb hby d7_26)
  obtain ⟨cl5, Ar5, q5, S5, N5z, H5⟩ := id P9
  have hin5 : ¬ (w6x < 0 ∨ cl5.slots.size ≤ (w6x).toNatClampNeg) := inb_of S5 ⟨(bx_i8).1, (bx_i8).2⟩
  obtain ⟨e1x, hat5, rv5⟩ := H5 (w6x).toNatClampNeg (Nat.lt_of_not_le fun y => hin5 (Or.inr y))
  obtain ⟨T6, X6, e6, st6⟩ := getF X4 hx hZ hown (host := "") (Or.inl (tw hw 12 rfl)) Via.refl e4 P7 (g := (mkF m 33 #[rv u1, rv w1, iv w6x, .val e1x] [(.ref u1)])) rfl rfl (hb hby d7_33)
  obtain ⟨cl7, Ar7, q7, S7, N7z, H7⟩ := id P9
  have hin7 : ¬ (w6x < 0 ∨ cl7.slots.size ≤ (w6x).toNatClampNeg) := inb_of S7 ⟨(bx_i8).1, (bx_i8).2⟩
  obtain ⟨T8, h8, X8, e8, W8, st8⟩ := stR X6 hx hZ e6 Ar7 (j := w6x) hin7 rfl (Or.inl rfl) (g := (mkF m 38 #[rv u1, rv w1, iv w6x, .val e1x] [.null, (.int w6x), (.ref u2)])) rfl rfl (hb hby d7_38)
  have K8 : Keep h0 h8 [u2, u1] := (Keep.refl h0 [u2, u1]).wr W8 (Or.inl (List.mem_of_getElem? (i := 0) rfl))
  have N8 := Fr.snoc X8 N3 P12
  have V8 : Ary Z h8 u2 u4 (.array .byte) (8 : Int32) := Ary.set Ar7 q7 S7 N7z H7 rfl W8
  have O8 : Old Z n0 h8 := P2.wr W8 P12
  obtain ⟨T9, X9, e9, st9⟩ := getS2 X8 hx hZ hown (host := "") (Or.inl (tw hw 33 rfl)) Via.refl e8 (Sg2.ext O8.2) (g := (mkF m 40 #[rv u1, rv w1, iv w6x, .val e1x] [(.ref w1)])) rfl (hb hby d7_40)
  have F1_10 : Fld Z h8 u1 "com/example/afterlog/afterlog/ListValue" "size" "I" (.int 2) := P5.other W8 (Or.inl P13)
  obtain ⟨T11, X11, e11, st11⟩ := getF X9 hx hZ hown (host := "") (Or.inl (tw hw 19 rfl)) Via.refl e9 F1_10 (g := (mkF m 57 #[rv u1, rv w1, iv w6x, .val e1x] [(.ref u1), (.ref u1)])) rfl rfl (hb hby d7_57)
  have F1_12 : Exa Z h8 u1 "com/example/afterlog/afterlog/ListValue" := P6.wr W8
  have F1_13 : Fld Z h8 u1 "com/example/afterlog/afterlog/ListValue" "elements" "[[B" (.ref u2) := P7.other W8 (Or.inl P13)
  have F1_14 : Fld Z h8 u1 "com/example/afterlog/afterlog/ListValue" "head" "I" (.int u3) := P8.other W8 (Or.inl P13)
  obtain ⟨T15, h15, X15, e15, W15, st15⟩ := putF X11 hx hZ hown (host := "") (Or.inl (tw hw 19 rfl)) Via.refl e11 F1_10 F1_12 (Or.inl (tw hw 20 rfl)) (tw hw 2 rfl) (ty := .int) (by decide) rfl rfl (g := (mkF m 62 #[rv u1, rv w1, iv w6x, .val e1x] [(.int 1), (.ref u1)])) rfl rfl (hb hby d7_62)
  have K15 : Keep h0 h15 [u2, u1] := K8.wr W15 (Or.inl (List.mem_of_getElem? (i := 1) rfl))
  have N15 := Fr.snoc X15 N8 P14
  have Fw15 : Fld Z h15 u1 "com/example/afterlog/afterlog/ListValue" "size" "I" (.int 1) := F1_10.same W15
  have F2_16 : Ary Z h15 u2 u4 (.array .byte) (8 : Int32) := V8.other W15 (Ne.symm P13)
  have F1_17 : Exa Z h8 u2 "[[B" := P11.wr W8
  have F2_18 : Exa Z h15 u2 "[[B" := F1_17.wr W15
  have F2_19 : Exa Z h15 u1 "com/example/afterlog/afterlog/ListValue" := F1_12.wr W15
  have F2_20 : Fld Z h15 u1 "com/example/afterlog/afterlog/ListValue" "elements" "[[B" (.ref u2) := F1_13.other W15 (Or.inr (slot_ne (Or.inl (tw hw 13 rfl)) (Or.inl (tw hw 20 rfl)) (by decide) (t := (.array (.array .byte))) (t' := .int) (by decide) (by decide)))
  have F2_21 : Fld Z h15 u1 "com/example/afterlog/afterlog/ListValue" "head" "I" (.int u3) := F1_14.other W15 (Or.inr (slot_ne (Or.inl (tw hw 40 rfl)) (Or.inl (tw hw 20 rfl)) (by decide) (t := .int) (t' := .int) (by decide) (by decide)))
  obtain ⟨fs, hr, hrun, hended, hW, hsame⟩ := X15.leave (v := some e1x) (fun h => by rw [Bd.returns] at h; cases h)
  refine ⟨_, _, pre0 _ ?_, hrun, hended, _, _, rfl, ?_, ⟨_, rfl⟩, hW, hsame.mono (by decide) (by decide)⟩
  · show SF p e below s₁ (mkF m 0 #[rv u1, rv w1, .unset, .unset] []) _
    refine XS.aloadN X0.here hx rfl (hb hby d7_0) rfl rfl ?_
    show SF p e below s₁ (mkF m 1 #[rv u1, rv w1, .unset, .unset] [(.ref w1)]) _
    refine st1 _ ?_
    show SF p e below T1 (mkF m 4 #[rv u1, rv w1, .unset, .unset] [(.ref w2), (.ref w1)]) _
    refine Jvm.RoadKit.acmp (g := (mkF m 4 #[rv u1, rv w1, .unset, .unset] [(.ref w2), (.ref w1)])) X1 hx rfl rfl rfl (pc0 := 4) (pc' := 14) (same := false) rfl (hb hby d7_4) rfl (decide_eq_false fun q => (Fld.ne F_w1_ordinal F_w2_ordinal (by decide)) (Value.ref.inj q)) (by decide) (by decide) ?_
    show SF p e below T1 (mkF m 14 #[rv u1, rv w1, .unset, .unset] []) _
    refine XS.aloadN X1.here hx rfl (hb hby d7_14) rfl rfl ?_
    show SF p e below T1 (mkF m 15 #[rv u1, rv w1, .unset, .unset] [(.ref u1)]) _
    refine XS.aloadN X1.here hx rfl (hb hby d7_15) rfl rfl ?_
    show SF p e below T1 (mkF m 16 #[rv u1, rv w1, .unset, .unset] [(.ref u1), (.ref u1)]) _
    refine st2 _ ?_
    show SF p e below T2 (mkF m 19 #[rv u1, rv w1, .unset, .unset] [(.int 2), (.ref u1)]) _
    refine XS.iconst X2.here hx rfl (hb hby d7_19) ?_
    show SF p e below T2 (mkF m 20 #[rv u1, rv w1, .unset, .unset] [(.int 1), (.int 2), (.ref u1)]) _
    refine XS.isub X2.here hx rfl (hb hby d7_20) rfl ?_
    show SF p e below T2 (mkF m 21 #[rv u1, rv w1, .unset, .unset] [(.int ((2 : Int32) - (1 : Int32))), (.ref u1)]) _
    rw [show ((2 : Int32) - (1 : Int32)) = (1 : Int32) from by decide]
    show SF p e below T2 (mkF m 21 #[rv u1, rv w1, .unset, .unset] [(.int 1), (.ref u1)]) _
    refine st3.trans ?_
    show SF p e below T3 (mkF m 24 #[rv u1, rv w1, .unset, .unset] [(.int w6x)]) _
    refine XS.istoreN X3.here hx rfl (hb hby d7_24) rfl (l' := #[rv u1, rv w1, iv w6x, .unset]) rfl ?_
    show SF p e below T3 (mkF m 25 #[rv u1, rv w1, iv w6x, .unset] []) _
    refine XS.aloadN X3.here hx rfl (hb hby d7_25) rfl rfl ?_
    show SF p e below T3 (mkF m 26 #[rv u1, rv w1, iv w6x, .unset] [(.ref u1)]) _
    refine st4 _ ?_
    show SF p e below T4 (mkF m 29 #[rv u1, rv w1, iv w6x, .unset] [(.ref u2)]) _
    refine XS.iloadN X4.here hx rfl (hb hby d7_29) rfl ?_
    show SF p e below T4 (mkF m 30 #[rv u1, rv w1, iv w6x, .unset] [(.int w6x), (.ref u2)]) _
    refine X4.aaload hx (j := w6x) (v := e1x) (by rw [e4]; exact Ar5.1) (State.isArrayOf_alike hZ.alike Ar5.2.1) rfl Ar5.2.2 hin5 hat5 (g := (mkF m 30 #[rv u1, rv w1, iv w6x, .unset] [(.int w6x), (.ref u2)])) rfl rfl (hb hby d7_30) _ ?_
    show SF p e below T4 (mkF m 31 #[rv u1, rv w1, iv w6x, .unset] [e1x]) _
    refine XS.astoreN X4.here hx rfl (hb hby d7_31) rfl rv5 (l' := #[rv u1, rv w1, iv w6x, .val e1x]) (by rcases ref_cases rv5 with h | ⟨_, h⟩ <;> subst h <;> rfl) ?_
    show SF p e below T4 (mkF m 32 #[rv u1, rv w1, iv w6x, .val e1x] []) _
    refine XS.aloadN X4.here hx rfl (hb hby d7_32) rfl rfl ?_
    show SF p e below T4 (mkF m 33 #[rv u1, rv w1, iv w6x, .val e1x] [(.ref u1)]) _
    refine st6 _ ?_
    show SF p e below T6 (mkF m 36 #[rv u1, rv w1, iv w6x, .val e1x] [(.ref u2)]) _
    refine XS.iloadN X6.here hx rfl (hb hby d7_36) rfl ?_
    show SF p e below T6 (mkF m 37 #[rv u1, rv w1, iv w6x, .val e1x] [(.int w6x), (.ref u2)]) _
    refine XS.aconstNull X6.here hx rfl (hb hby d7_37) ?_
    show SF p e below T6 (mkF m 38 #[rv u1, rv w1, iv w6x, .val e1x] [.null, (.int w6x), (.ref u2)]) _
    refine st8 _ ?_
    show SF p e below T8 (mkF m 39 #[rv u1, rv w1, iv w6x, .val e1x] []) _
    refine XS.aloadN X8.here hx rfl (hb hby d7_39) rfl rfl ?_
    show SF p e below T8 (mkF m 40 #[rv u1, rv w1, iv w6x, .val e1x] [(.ref w1)]) _
    refine st9 _ ?_
    show SF p e below T9 (mkF m 43 #[rv u1, rv w1, iv w6x, .val e1x] [(.ref w2), (.ref w1)]) _
    refine Jvm.RoadKit.acmp (g := (mkF m 43 #[rv u1, rv w1, iv w6x, .val e1x] [(.ref w2), (.ref w1)])) X9 hx rfl rfl rfl (pc0 := 43) (pc' := 55) (same := false) rfl (hb hby d7_43) rfl (decide_eq_false fun q => (Fld.ne F_w1_ordinal F_w2_ordinal (by decide)) (Value.ref.inj q)) (by decide) (by decide) ?_
    show SF p e below T9 (mkF m 55 #[rv u1, rv w1, iv w6x, .val e1x] []) _
    refine XS.aloadN X9.here hx rfl (hb hby d7_55) rfl rfl ?_
    show SF p e below T9 (mkF m 56 #[rv u1, rv w1, iv w6x, .val e1x] [(.ref u1)]) _
    refine XS.dup X9.here hx rfl (hb hby d7_56) rfl rfl ?_
    show SF p e below T9 (mkF m 57 #[rv u1, rv w1, iv w6x, .val e1x] [(.ref u1), (.ref u1)]) _
    refine st11 _ ?_
    show SF p e below T11 (mkF m 60 #[rv u1, rv w1, iv w6x, .val e1x] [(.int 2), (.ref u1)]) _
    refine XS.iconst X11.here hx rfl (hb hby d7_60) ?_
    show SF p e below T11 (mkF m 61 #[rv u1, rv w1, iv w6x, .val e1x] [(.int 1), (.int 2), (.ref u1)]) _
    refine XS.isub X11.here hx rfl (hb hby d7_61) rfl ?_
    show SF p e below T11 (mkF m 62 #[rv u1, rv w1, iv w6x, .val e1x] [(.int ((2 : Int32) - (1 : Int32))), (.ref u1)]) _
    rw [show ((2 : Int32) - (1 : Int32)) = (1 : Int32) from by decide]
    show SF p e below T11 (mkF m 62 #[rv u1, rv w1, iv w6x, .val e1x] [(.int 1), (.ref u1)]) _
    refine st15 _ ?_
    show SF p e below T15 (mkF m 65 #[rv u1, rv w1, iv w6x, .val e1x] []) _
    refine XS.aloadN X15.here hx rfl (hb hby d7_65) rfl rv5 ?_
    show SF p e below T15 (mkF m 66 #[rv u1, rv w1, iv w6x, .val e1x] [e1x]) _
    exact own_retR X15 hx Bd.returns rfl rv5 (hb hby d7_66) hr
  · show Q7_23 Z u1 w1 w2 u2 u3 u4 h0 n0 _ T15.heap _
    rw [e15]
    exact ⟨e1x, rv5, rfl, N15, K15, F2_16, F2_18, Fw15, F2_19, F2_20, F2_21⟩
-- ListValueIsEmptyPinLaw.step 
def Q4_24 (Z : State) (u1 : Addr) (u2 : Int32) (u3 : Addr) (w1 : Addr) (w2 : Addr) (u4 : Addr) (u5 : Int32) (u6 : ClassId) (h0 : Heap) (n0 : Nat) (v : Option Value) (h : Heap) (L : List Loc) : Prop := v = some (.int 1) ∧ Fr n0 L ∧ Keep h0 h [u4, u1] ∧ Exa Z h u4 "[[B" ∧ Ary Z h u4 u6 (.array .byte) (8 : Int32) ∧ Exa Z h u1 "com/example/afterlog/afterlog/ListValue" ∧ Fld Z h u1 "com/example/afterlog/afterlog/ListValue" "size" "I" (.int 1) ∧ Fld Z h u1 "com/example/afterlog/afterlog/ListValue" "elements" "[[B" (.ref u4) ∧ Fld Z h u1 "com/example/afterlog/afterlog/ListValue" "head" "I" (.int u5)
set_option maxRecDepth 65536 in
set_option maxHeartbeats 40000000 in
theorem rm4_24 (l : Launch) (Z : State) (a0 : Array Value) (hw : HW Z a0) (ws : List Jvm.Cond) (u1 : Addr) (u2 : Int32) (u3 : Addr) (w1 : Addr) (w2 : Addr) (u4 : Addr) (u5 : Int32) (u6 : ClassId) (h0 : Heap) (n0 : Nat) (Z0 : n0 ≤ h0.size) (P1 : (u2 &&& (2 : Int32)) = (0 : Int32)) (Sg0 : Sta Z Z.heap "com/example/afterlog/afterlog/ListValue$End" "TAIL" "Lcom/example/afterlog/afterlog/ListValue$End;" (.ref w1)) (P3 : Old Z n0 h0) (P4 : ¬ ((u2 &&& (1 : Int32)) = (0 : Int32))) (P5 : Exa Z h0 u1 "com/example/afterlog/afterlog/ListValue") (Sg2 : Sta Z Z.heap "com/example/afterlog/afterlog/ListValue$End" "HEAD" "Lcom/example/afterlog/afterlog/ListValue$End;" (.ref w2)) (F_w1_ordinal : Fld Z Z.heap w1 "java/lang/Enum" "ordinal" "I" (.int 1)) (F_w2_ordinal : Fld Z Z.heap w2 "java/lang/Enum" "ordinal" "I" (.int 0)) (P9 : Fld Z h0 u1 "com/example/afterlog/afterlog/ListValue" "size" "I" (.int 2)) (P10 : Fld Z h0 u1 "com/example/afterlog/afterlog/ListValue" "elements" "[[B" (.ref u4)) (P11 : Fld Z h0 u1 "com/example/afterlog/afterlog/ListValue" "head" "I" (.int u5)) (P12 : Ary Z h0 u4 u6 (.array .byte) (8 : Int32)) (P13 : ¬ u5 < (0 : Int32) ∧ u5 < (8 : Int32)) (P14 : Exa Z h0 u4 "[[B") (P15 : n0 ≤ u4) (P16 : u1 ≠ u4) (P17 : n0 ≤ u1) :
    MF l Z (⟨"com/example/afterlog/afterlog/ListValueIsEmptyPinLaw", "step", "(Lcom/example/afterlog/afterlog/ListValue;II[B)I"⟩ : MethodName) (Jvm.Cond.code (⟨"com/example/afterlog/afterlog/ListValueIsEmptyPinLaw", "step", "(Lcom/example/afterlog/afterlog/ListValue;II[B)I"⟩ : MethodName) method_3_code 5 (some .int)) ws ({ frames := 2, cells := 0, slots := 0, locals := 29 } : Room) #[(.ref u1), (.int 2), (.int u2), (.ref u3)] h0 (Q4_24 Z u1 u2 u3 w1 w2 u4 u5 u6 h0 n0) := by
  refine MetFree.of_bodySF (plainFor_of_name pn_1) hisR ?_
  intro p e s m args below meth c s₁ Bd hml0 hP hK
  obtain ⟨rfl, hZ, hh⟩ := hP
  have hx := Bd.exec
  have hby := Bd.bytes
  have hml : c.maxLocals = 5 := hml0
  have hown : s.vm.findClass "com/example/afterlog/afterlog/ListValueIsEmptyPinLaw" = some m.cls := findClass_of_methodNamed Bd.named
  have hnm := (name_of_methodNamed Bd.named Bd.method).1
  have X0 : Stand p l e ({ frames := 2, cells := 0, slots := 0, locals := 29 } : Room) s m #[(.ref u1), (.int 2), (.int u2), (.ref u3)] below meth c s₁ [] 0 0 := Stand.of_body Bd
  have e0 : s₁.heap = h0 := by rw [← hh, Bd.state]; rfl
  have N0 := Fr.nil n0
  have pre0 : ∀ t, SF p e below s₁ (mkF m 0 #[rv u1, iv 2, iv u2, rv u3, .unset] []) t → SF p e below s₁ (entryFrame m #[(.ref u1), (.int 2), (.int u2), (.ref u3)] 5) t := fun t k => castTop (ef_4 m u1 (2 : Int32) u2 u3) k
  obtain ⟨T1, X1, e1, st1⟩ := getS2 X0 hx hZ hown (host := "") (Or.inl (tw hw 25 rfl)) Via.refl e0 (Sg0.ext P3.2) (g := (mkF m 12 #[rv u1, iv 2, iv u2, rv u3, .unset] [])) rfl (hb hby d4_12)
  obtain ⟨cq2, kq2, q2a, q2b, q2c⟩ := isOf hZ e1 P5
  obtain ⟨_, _, ⟨T2, L2, k2x, n2⟩, -, X2, ⟨Lc2, hQ2, l2, y2, z2⟩, st2⟩ := X1.virtualBack hx (y := (⟨"com/example/afterlog/afterlog/ListValue", "pop", "(Lcom/example/afterlog/afterlog/ListValue$End;)[B"⟩ : MethodName)) (z := (⟨"com/example/afterlog/afterlog/ListValue", "pop", "(Lcom/example/afterlog/afterlog/ListValue$End;)[B"⟩ : MethodName)) hown (mvT hZ (tw hw 43 rfl)) (mvT hZ (tw hw 44 rfl)) (notFace_of_selects (args := #[]) (mvT hZ (tw hw 46 rfl))) (mvT hZ (tw hw 46 rfl)) (mvT hZ (tw hw 45 rfl)) (by decide) (backOf (W := 0) (rm7_23 l Z a0 hw [] u1 w1 w2 u4 u5 u6 h0 n0 Z0 Sg2 P3 F_w1_ordinal F_w2_ordinal P9 P5 P10 P11 P12 P13 P14 P15 P16 P17) hZ (tw hw 47 rfl) (tw hw 3 rfl) (by decide) (by decide)) q2a q2c (g := (mkF m 30 #[rv u1, iv 2, iv u2, rv u3, rv w1] [(.ref w1), (.ref u1)])) rfl (by rw [hml]; rfl) (Steps.refl _) (argsL := [(.ref w1)]) (rest := []) (lenOf pd_5 rfl) rfl (by show 2 * 0 + _ ≤ _; exact Nat.le_of_eq rfl) (hb hby d4_30) (fun _ _ => ⟨rfl, e1, (by decide : 0 + 0 ≤ _), (by decide : 0 + 0 ≤ _)⟩)
  dsimp only [Pt.U, Pt.locs, Pt.cells, Pt.slots] at X2 l2 y2 z2 st2 hQ2
  subst l2 y2 z2
  obtain ⟨w7x, bx_vx10, rfl, N2q, K2c, Fq2_0, Fq2_1, Fq2_2, Fq2_3, Fq2_4, Fq2_5⟩ := hQ2
  have K2 : Keep h0 T2.heap [u4, u1] := (Keep.refl h0 [u4, u1]).trans K2c (allS (Or.inl (List.mem_of_getElem? (i := 0) rfl)) (allS (Or.inl (List.mem_of_getElem? (i := 1) rfl)) all0))
  have N2 := Fr.app N0 N2q
  obtain ⟨fs, hr, hrun, hended, hW, hsame⟩ := X2.leave (v := some (.int 1)) (fun h => by rw [Bd.returns] at h; cases h)
  refine ⟨_, _, pre0 _ ?_, hrun, hended, _, _, rfl, ?_, ⟨_, rfl⟩, hW, hsame.mono (by decide) (by decide)⟩
  · show SF p e below s₁ (mkF m 0 #[rv u1, iv 2, iv u2, rv u3, .unset] []) _
    refine XS.iloadN X0.here hx rfl (hb hby d4_0) rfl ?_
    show SF p e below s₁ (mkF m 1 #[rv u1, iv 2, iv u2, rv u3, .unset] [(.int u2)]) _
    refine XS.iconst X0.here hx rfl (hb hby d4_1) ?_
    show SF p e below s₁ (mkF m 2 #[rv u1, iv 2, iv u2, rv u3, .unset] [(.int 2), (.int u2)]) _
    refine XS.iand X0.here hx rfl (hb hby d4_2) rfl ?_
    show SF p e below s₁ (mkF m 3 #[rv u1, iv 2, iv u2, rv u3, .unset] [(.int (u2 &&& (2 : Int32)))]) _
    refine XS.ifYes X0.here hx rfl (pc0 := 3) (pc' := 12) rfl (hb hby d4_3) rfl ((if0 _ _).trans (teq P1).1) (by decide) (by decide) ?_
    show SF p e below s₁ (mkF m 12 #[rv u1, iv 2, iv u2, rv u3, .unset] []) _
    refine st1 _ ?_
    show SF p e below T1 (mkF m 15 #[rv u1, iv 2, iv u2, rv u3, .unset] [(.ref w1)]) _
    refine XS.astore X1.here hx rfl (hb hby d4_15) rfl rfl (l' := #[rv u1, iv 2, iv u2, rv u3, rv w1]) rfl ?_
    show SF p e below T1 (mkF m 17 #[rv u1, iv 2, iv u2, rv u3, rv w1] []) _
    refine XS.iloadN X1.here hx rfl (hb hby d4_17) rfl ?_
    show SF p e below T1 (mkF m 18 #[rv u1, iv 2, iv u2, rv u3, rv w1] [(.int u2)]) _
    refine XS.iconst X1.here hx rfl (hb hby d4_18) ?_
    show SF p e below T1 (mkF m 19 #[rv u1, iv 2, iv u2, rv u3, rv w1] [(.int 1), (.int u2)]) _
    refine XS.iand X1.here hx rfl (hb hby d4_19) rfl ?_
    show SF p e below T1 (mkF m 20 #[rv u1, iv 2, iv u2, rv u3, rv w1] [(.int (u2 &&& (1 : Int32)))]) _
    refine XS.ifNo X1.here hx rfl (hb hby d4_20) rfl ((if0 _ _).trans (feq P4).1) ?_
    show SF p e below T1 (mkF m 23 #[rv u1, iv 2, iv u2, rv u3, rv w1] []) _
    refine XS.iloadN X1.here hx rfl (hb hby d4_23) rfl ?_
    show SF p e below T1 (mkF m 24 #[rv u1, iv 2, iv u2, rv u3, rv w1] [(.int 2)]) _
    refine XS.ifNo X1.here hx rfl (hb hby d4_24) rfl ((if0 _ _).trans (tlt (by decide : (0 : Int32) < (2 : Int32))).2.2.2) ?_
    show SF p e below T1 (mkF m 27 #[rv u1, iv 2, iv u2, rv u3, rv w1] []) _
    refine XS.aloadN X1.here hx rfl (hb hby d4_27) rfl rfl ?_
    show SF p e below T1 (mkF m 28 #[rv u1, iv 2, iv u2, rv u3, rv w1] [(.ref u1)]) _
    refine XS.aload X1.here hx rfl (hb hby d4_28) rfl rfl ?_
    show SF p e below T1 (mkF m 30 #[rv u1, iv 2, iv u2, rv u3, rv w1] [(.ref w1), (.ref u1)]) _
    refine st2.trans ?_
    show SF p e below T2 (mkF m 33 #[rv u1, iv 2, iv u2, rv u3, rv w1] [w7x]) _
    refine XS.pop X2.here hx rfl (hb hby d4_33) rfl (by rcases ref_cases bx_vx10 with h | ⟨_, h⟩ <;> subst h <;> rfl) ?_
    show SF p e below T2 (mkF m 34 #[rv u1, iv 2, iv u2, rv u3, rv w1] []) _
    refine XS.iloadN X2.here hx rfl (hb hby d4_34) rfl ?_
    show SF p e below T2 (mkF m 35 #[rv u1, iv 2, iv u2, rv u3, rv w1] [(.int 2)]) _
    refine XS.iconst X2.here hx rfl (hb hby d4_35) ?_
    show SF p e below T2 (mkF m 36 #[rv u1, iv 2, iv u2, rv u3, rv w1] [(.int 1), (.int 2)]) _
    refine XS.isub X2.here hx rfl (hb hby d4_36) rfl ?_
    show SF p e below T2 (mkF m 37 #[rv u1, iv 2, iv u2, rv u3, rv w1] [(.int ((2 : Int32) - (1 : Int32)))]) _
    rw [show ((2 : Int32) - (1 : Int32)) = (1 : Int32) from by decide]
    show SF p e below T2 (mkF m 37 #[rv u1, iv 2, iv u2, rv u3, rv w1] [(.int 1)]) _
    exact retI X2 hx Bd.returns (hb hby d4_37) hr
  · show Q4_24 Z u1 u2 u3 w1 w2 u4 u5 u6 h0 n0 _ T2.heap _
    exact ⟨rfl, N2, K2, Fq2_1, Fq2_0, Fq2_3, Fq2_2, Fq2_4, Fq2_5⟩
-- ListValue.push 
def Q5_25 (Z : State) (u1 : Addr) (w1 : Addr) (u2 : Addr) (u3 : Addr) (u4 : ClassId) (w2 : Addr) (u5 : Int32) (h0 : Heap) (n0 : Nat) (v : Option Value) (h : Heap) (L : List Loc) : Prop := v = none ∧ Fr n0 L ∧ Keep h0 h [u3, u1] ∧ Ary Z h u3 u4 (.array .byte) (8 : Int32) ∧ Exa Z h u3 "[[B" ∧ Fld Z h u1 "com/example/afterlog/afterlog/ListValue" "size" "I" (.int 2) ∧ Fld Z h u1 "com/example/afterlog/afterlog/ListValue" "elements" "[[B" (.ref u3) ∧ Exa Z h u1 "com/example/afterlog/afterlog/ListValue" ∧ Fld Z h u1 "com/example/afterlog/afterlog/ListValue" "head" "I" (.int u5)
set_option maxRecDepth 65536 in
set_option maxHeartbeats 40000000 in
theorem rm5_25 (l : Launch) (Z : State) (a0 : Array Value) (hw : HW Z a0) (ws : List Jvm.Cond) (u1 : Addr) (w1 : Addr) (u2 : Addr) (u3 : Addr) (u4 : ClassId) (w2 : Addr) (u5 : Int32) (h0 : Heap) (n0 : Nat) (Z0 : n0 ≤ h0.size) (P1 : Fld Z h0 u1 "com/example/afterlog/afterlog/ListValue" "size" "I" (.int 1)) (P2 : Fld Z h0 u1 "com/example/afterlog/afterlog/ListValue" "elements" "[[B" (.ref u3)) (P3 : Ary Z h0 u3 u4 (.array .byte) (8 : Int32)) (Sg2 : Sta Z Z.heap "com/example/afterlog/afterlog/ListValue$End" "HEAD" "Lcom/example/afterlog/afterlog/ListValue$End;" (.ref w2)) (P5 : Old Z n0 h0) (F_w1_ordinal : Fld Z Z.heap w1 "java/lang/Enum" "ordinal" "I" (.int 1)) (F_w2_ordinal : Fld Z Z.heap w2 "java/lang/Enum" "ordinal" "I" (.int 0)) (P8 : Exa Z h0 u1 "com/example/afterlog/afterlog/ListValue") (P9 : Fld Z h0 u1 "com/example/afterlog/afterlog/ListValue" "head" "I" (.int u5)) (P10 : ¬ u5 < (0 : Int32) ∧ u5 < (8 : Int32)) (P11 : Exa Z h0 u3 "[[B") (P12 : OvrA Z u4 .byte "[B") (P13 : Exa Z h0 u2 "[B") (P14 : n0 ≤ u3) (P15 : u1 ≠ u3) (P16 : n0 ≤ u1) :
    MF l Z (⟨"com/example/afterlog/afterlog/ListValue", "push", "(Lcom/example/afterlog/afterlog/ListValue$End;[B)V"⟩ : MethodName) (Jvm.Cond.code (⟨"com/example/afterlog/afterlog/ListValue", "push", "(Lcom/example/afterlog/afterlog/ListValue$End;[B)V"⟩ : MethodName) prog_24_method_6_code 3 none) ws ({ frames := 1, cells := 0, slots := 0, locals := 15 } : Room) #[(.ref u1), (.ref w1), (.ref u2)] h0 (Q5_25 Z u1 w1 u2 u3 u4 w2 u5 h0 n0) := by
  refine MetFree.of_bodySF (plainFor_of_name pn_0) hisR ?_
  intro p e s m args below meth c s₁ Bd hml0 hP hK
  obtain ⟨rfl, hZ, hh⟩ := hP
  have hx := Bd.exec
  have hby := Bd.bytes
  have hml : c.maxLocals = 3 := hml0
  have hown : s.vm.findClass "com/example/afterlog/afterlog/ListValue" = some m.cls := findClass_of_methodNamed Bd.named
  have hnm := (name_of_methodNamed Bd.named Bd.method).1
  have X0 : Stand p l e ({ frames := 1, cells := 0, slots := 0, locals := 15 } : Room) s m #[(.ref u1), (.ref w1), (.ref u2)] below meth c s₁ [] 0 0 := Stand.of_body Bd
  have e0 : s₁.heap = h0 := by rw [← hh, Bd.state]; rfl
  have N0 := Fr.nil n0
  have pre0 : ∀ t, SF p e below s₁ (mkF m 0 #[rv u1, rv w1, rv u2] []) t → SF p e below s₁ (entryFrame m #[(.ref u1), (.ref w1), (.ref u2)] 3) t := fun t k => castTop (ef_3 m u1 w1 u2) k
  obtain ⟨T1, X1, e1, st1⟩ := getF X0 hx hZ hown (host := "") (Or.inl (tw hw 19 rfl)) Via.refl e0 P1 (g := (mkF m 1 #[rv u1, rv w1, rv u2] [(.ref u1)])) rfl rfl (hb hby d5_1)
  obtain ⟨T2, X2, e2, st2⟩ := getF X1 hx hZ hown (host := "") (Or.inl (tw hw 12 rfl)) Via.refl e1 P2 (g := (mkF m 5 #[rv u1, rv w1, rv u2] [(.ref u1), (.int 1)])) rfl rfl (hb hby d5_5)
  obtain ⟨cl3, Ar3, q3, S3, N3z, H3⟩ := id P3
  obtain ⟨T4, X4, e4, st4⟩ := getS2 X2 hx hZ hown (host := "") (Or.inl (tw hw 33 rfl)) Via.refl e2 (Sg2.ext P5.2) (g := (mkF m 17 #[rv u1, rv w1, rv u2] [(.ref w1)])) rfl (hb hby d5_17)
  obtain ⟨T5, X5, e5, st5⟩ := getF X4 hx hZ hown (host := "") (Or.inl (tw hw 12 rfl)) Via.refl e4 P2 (g := (mkF m 52 #[rv u1, rv w1, rv u2] [(.ref u1)])) rfl rfl (hb hby d5_52)
  obtain ⟨T6, X6, e6, st6⟩ := getF X5 hx hZ hown (host := "") (Or.inl (tw hw 19 rfl)) Via.refl e5 P1 (g := (mkF m 57 #[rv u1, rv w1, rv u2] [(.ref u1), (.ref u1), (.ref u3)])) rfl rfl (hb hby d5_57)
  obtain ⟨cq7, q7, q7'⟩ := P8.cell
  obtain ⟨_, _, ⟨T7, L7, k7x, n7⟩, -, X7, ⟨Lc7, hQ7, l7, y7, z7⟩, st7⟩ := X6.privateBack hx (y := (⟨"com/example/afterlog/afterlog/ListValue", "slot", "(I)I"⟩ : MethodName)) hown (mvT hZ (tw hw 35 rfl)) (mvT hZ (tw hw 36 rfl)) (own_selP hZ (tw hw 2 rfl) (tw hw 37 rfl) (tw hw 36 rfl) (by decide)) (Cond.privateMethod_at (mvP hZ (tw hw 37 rfl) (args := #[]))) (mvT hZ (tw hw 38 rfl)) (by decide) (backOf (W := 1) (own_slot l Z a0 hw [] u1 u3 u4 u5 (1 : Int32) h0 n0 Z0 P2 P9 P3 P10 ⟨by decide, by decide⟩) hZ (tw hw 38 rfl) (tw hw 3 rfl) (by decide) (by decide)) (g := (mkF m 60 #[rv u1, rv w1, rv u2] [(.int 1), (.ref u1), (.ref u3)])) rfl (by rw [hml]; rfl) (Steps.refl _) (a := u1) (by rw [e6]; exact q7) q7' (argsL := [(.int 1)]) (rest := [(.ref u3)]) (lenOf pd_2 rfl) rfl (by show 2 * 0 + _ ≤ _; exact Nat.le_of_eq rfl) (hb hby d5_60) (fun _ _ => ⟨rfl, e6, (by decide : 0 + 0 ≤ _), (by decide : 0 + 0 ≤ _)⟩)
  dsimp only [Pt.U, Pt.locs, Pt.cells, Pt.slots] at X7 l7 y7 z7 st7 hQ7
  subst l7 y7 z7
  obtain ⟨w6x, bx_i11, rfl, N7q, e7⟩ := hQ7
  have N7 := Fr.app N0 N7q
  obtain ⟨cl8, Ar8, q8, S8, N8z, H8⟩ := id P3
  have hin8 : ¬ (w6x < 0 ∨ cl8.slots.size ≤ (w6x).toNatClampNeg) := inb_of S8 ⟨(bx_i11).1, (bx_i11).2⟩
  obtain ⟨T9, h9, X9, e9, W9, st9⟩ := stR X7 hx hZ e7 Ar8 (j := w6x) hin8 rfl (Sto.ofVA Ar8 q8 P12 (Ins.self P13)) (g := (mkF m 64 #[rv u1, rv w1, rv u2] [(.ref u2), (.int w6x), (.ref u3)])) rfl rfl (hb hby d5_64)
  have K9 : Keep h0 h9 [u3, u1] := (Keep.refl h0 [u3, u1]).wr W9 (Or.inl (List.mem_of_getElem? (i := 0) rfl))
  have N9 := Fr.snoc X9 N7 P14
  have V9 : Ary Z h9 u3 u4 (.array .byte) (8 : Int32) := Ary.set Ar8 q8 S8 N8z H8 rfl W9
  have F1_10 : Fld Z h9 u1 "com/example/afterlog/afterlog/ListValue" "size" "I" (.int 1) := P1.other W9 (Or.inl P15)
  obtain ⟨T11, X11, e11, st11⟩ := getF X9 hx hZ hown (host := "") (Or.inl (tw hw 19 rfl)) Via.refl e9 F1_10 (g := (mkF m 67 #[rv u1, rv w1, rv u2] [(.ref u1), (.ref u1)])) rfl rfl (hb hby d5_67)
  have F1_12 : Exa Z h9 u1 "com/example/afterlog/afterlog/ListValue" := P8.wr W9
  have F1_13 : Fld Z h9 u1 "com/example/afterlog/afterlog/ListValue" "elements" "[[B" (.ref u3) := P2.other W9 (Or.inl P15)
  have F1_14 : Fld Z h9 u1 "com/example/afterlog/afterlog/ListValue" "head" "I" (.int u5) := P9.other W9 (Or.inl P15)
  obtain ⟨T15, h15, X15, e15, W15, st15⟩ := putF X11 hx hZ hown (host := "") (Or.inl (tw hw 19 rfl)) Via.refl e11 F1_10 F1_12 (Or.inl (tw hw 20 rfl)) (tw hw 2 rfl) (ty := .int) (by decide) rfl rfl (g := (mkF m 72 #[rv u1, rv w1, rv u2] [(.int 2), (.ref u1)])) rfl rfl (hb hby d5_72)
  have K15 : Keep h0 h15 [u3, u1] := K9.wr W15 (Or.inl (List.mem_of_getElem? (i := 1) rfl))
  have N15 := Fr.snoc X15 N9 P16
  have Fw15 : Fld Z h15 u1 "com/example/afterlog/afterlog/ListValue" "size" "I" (.int 2) := F1_10.same W15
  have F2_16 : Ary Z h15 u3 u4 (.array .byte) (8 : Int32) := V9.other W15 (Ne.symm P15)
  have F1_17 : Exa Z h9 u3 "[[B" := P11.wr W9
  have F2_18 : Exa Z h15 u3 "[[B" := F1_17.wr W15
  have F2_19 : Fld Z h15 u1 "com/example/afterlog/afterlog/ListValue" "elements" "[[B" (.ref u3) := F1_13.other W15 (Or.inr (slot_ne (Or.inl (tw hw 13 rfl)) (Or.inl (tw hw 20 rfl)) (by decide) (t := (.array (.array .byte))) (t' := .int) (by decide) (by decide)))
  have F2_20 : Exa Z h15 u1 "com/example/afterlog/afterlog/ListValue" := F1_12.wr W15
  have F2_21 : Fld Z h15 u1 "com/example/afterlog/afterlog/ListValue" "head" "I" (.int u5) := F1_14.other W15 (Or.inr (slot_ne (Or.inl (tw hw 40 rfl)) (Or.inl (tw hw 20 rfl)) (by decide) (t := .int) (t' := .int) (by decide) (by decide)))
  obtain ⟨fs, hr, hrun, hended, hW, hsame⟩ := X15.leave (v := none) (fun _ => rfl)
  refine ⟨_, _, pre0 _ ?_, hrun, hended, _, _, rfl, ?_, ⟨_, rfl⟩, hW, hsame.mono (by decide) (by decide)⟩
  · show SF p e below s₁ (mkF m 0 #[rv u1, rv w1, rv u2] []) _
    refine XS.aloadN X0.here hx rfl (hb hby d5_0) rfl rfl ?_
    show SF p e below s₁ (mkF m 1 #[rv u1, rv w1, rv u2] [(.ref u1)]) _
    refine st1 _ ?_
    show SF p e below T1 (mkF m 4 #[rv u1, rv w1, rv u2] [(.int 1)]) _
    refine XS.aloadN X1.here hx rfl (hb hby d5_4) rfl rfl ?_
    show SF p e below T1 (mkF m 5 #[rv u1, rv w1, rv u2] [(.ref u1), (.int 1)]) _
    refine st2 _ ?_
    show SF p e below T2 (mkF m 8 #[rv u1, rv w1, rv u2] [(.ref u3), (.int 1)]) _
    refine X2.arraylength hx (by rw [e2]; exact Ar3.1) (State.isArrayOf_alike hZ.alike Ar3.2.1) (g := (mkF m 8 #[rv u1, rv w1, rv u2] [(.ref u3), (.int 1)])) rfl rfl (hb hby d5_8) _ ?_
    rw [len_of S3 N3z]
    show SF p e below T2 (mkF m 9 #[rv u1, rv w1, rv u2] [(.int 8), (.int 1)]) _
    refine XS.icmpYes X2.here hx rfl (pc0 := 9) (pc' := 16) rfl (hb hby d5_9) rfl (feq (by decide : ¬ ((1 : Int32) = (8 : Int32)))).2 (by decide) (by decide) ?_
    show SF p e below T2 (mkF m 16 #[rv u1, rv w1, rv u2] []) _
    refine XS.aloadN X2.here hx rfl (hb hby d5_16) rfl rfl ?_
    show SF p e below T2 (mkF m 17 #[rv u1, rv w1, rv u2] [(.ref w1)]) _
    refine st4 _ ?_
    show SF p e below T4 (mkF m 20 #[rv u1, rv w1, rv u2] [(.ref w2), (.ref w1)]) _
    refine Jvm.RoadKit.acmp (g := (mkF m 20 #[rv u1, rv w1, rv u2] [(.ref w2), (.ref w1)])) X4 hx rfl rfl rfl (pc0 := 20) (pc' := 51) (same := false) rfl (hb hby d5_20) rfl (decide_eq_false fun q => (Fld.ne F_w1_ordinal F_w2_ordinal (by decide)) (Value.ref.inj q)) (by decide) (by decide) ?_
    show SF p e below T4 (mkF m 51 #[rv u1, rv w1, rv u2] []) _
    refine XS.aloadN X4.here hx rfl (hb hby d5_51) rfl rfl ?_
    show SF p e below T4 (mkF m 52 #[rv u1, rv w1, rv u2] [(.ref u1)]) _
    refine st5 _ ?_
    show SF p e below T5 (mkF m 55 #[rv u1, rv w1, rv u2] [(.ref u3)]) _
    refine XS.aloadN X5.here hx rfl (hb hby d5_55) rfl rfl ?_
    show SF p e below T5 (mkF m 56 #[rv u1, rv w1, rv u2] [(.ref u1), (.ref u3)]) _
    refine XS.aloadN X5.here hx rfl (hb hby d5_56) rfl rfl ?_
    show SF p e below T5 (mkF m 57 #[rv u1, rv w1, rv u2] [(.ref u1), (.ref u1), (.ref u3)]) _
    refine st6 _ ?_
    show SF p e below T6 (mkF m 60 #[rv u1, rv w1, rv u2] [(.int 1), (.ref u1), (.ref u3)]) _
    refine st7.trans ?_
    show SF p e below T7 (mkF m 63 #[rv u1, rv w1, rv u2] [(.int w6x), (.ref u3)]) _
    refine XS.aloadN X7.here hx rfl (hb hby d5_63) rfl rfl ?_
    show SF p e below T7 (mkF m 64 #[rv u1, rv w1, rv u2] [(.ref u2), (.int w6x), (.ref u3)]) _
    refine st9 _ ?_
    show SF p e below T9 (mkF m 65 #[rv u1, rv w1, rv u2] []) _
    refine XS.aloadN X9.here hx rfl (hb hby d5_65) rfl rfl ?_
    show SF p e below T9 (mkF m 66 #[rv u1, rv w1, rv u2] [(.ref u1)]) _
    refine XS.dup X9.here hx rfl (hb hby d5_66) rfl rfl ?_
    show SF p e below T9 (mkF m 67 #[rv u1, rv w1, rv u2] [(.ref u1), (.ref u1)]) _
    refine st11 _ ?_
    show SF p e below T11 (mkF m 70 #[rv u1, rv w1, rv u2] [(.int 1), (.ref u1)]) _
    refine XS.iconst X11.here hx rfl (hb hby d5_70) ?_
    show SF p e below T11 (mkF m 71 #[rv u1, rv w1, rv u2] [(.int 1), (.int 1), (.ref u1)]) _
    refine XS.iadd X11.here hx rfl (hb hby d5_71) rfl ?_
    show SF p e below T11 (mkF m 72 #[rv u1, rv w1, rv u2] [(.int ((1 : Int32) + (1 : Int32))), (.ref u1)]) _
    rw [show ((1 : Int32) + (1 : Int32)) = (2 : Int32) from by decide]
    show SF p e below T11 (mkF m 72 #[rv u1, rv w1, rv u2] [(.int 2), (.ref u1)]) _
    refine st15 _ ?_
    show SF p e below T15 (mkF m 75 #[rv u1, rv w1, rv u2] []) _
    exact X15.returnOut hx Bd.returns (hb hby d5_75) hr
  · show Q5_25 Z u1 w1 u2 u3 u4 w2 u5 h0 n0 _ T15.heap _
    rw [e15]
    exact ⟨rfl, N15, K15, F2_16, F2_18, Fw15, F2_19, F2_20, F2_21⟩
-- ListValueIsEmptyPinLaw.step 
def Q4_26 (Z : State) (u1 : Addr) (u2 : Int32) (u3 : Addr) (w1 : Addr) (u4 : Addr) (u5 : ClassId) (w2 : Addr) (u6 : Int32) (h0 : Heap) (n0 : Nat) (v : Option Value) (h : Heap) (L : List Loc) : Prop := v = some (.int 2) ∧ Fr n0 L ∧ Keep h0 h [u4, u1] ∧ Exa Z h u4 "[[B" ∧ Ary Z h u4 u5 (.array .byte) (8 : Int32) ∧ Exa Z h u1 "com/example/afterlog/afterlog/ListValue" ∧ Fld Z h u1 "com/example/afterlog/afterlog/ListValue" "size" "I" (.int 2) ∧ Fld Z h u1 "com/example/afterlog/afterlog/ListValue" "elements" "[[B" (.ref u4) ∧ Fld Z h u1 "com/example/afterlog/afterlog/ListValue" "head" "I" (.int u6)
set_option maxRecDepth 65536 in
set_option maxHeartbeats 40000000 in
theorem rm4_26 (l : Launch) (Z : State) (a0 : Array Value) (hw : HW Z a0) (ws : List Jvm.Cond) (u1 : Addr) (u2 : Int32) (u3 : Addr) (w1 : Addr) (u4 : Addr) (u5 : ClassId) (w2 : Addr) (u6 : Int32) (h0 : Heap) (n0 : Nat) (Z0 : n0 ≤ h0.size) (P1 : (u2 &&& (2 : Int32)) = (0 : Int32)) (Sg0 : Sta Z Z.heap "com/example/afterlog/afterlog/ListValue$End" "TAIL" "Lcom/example/afterlog/afterlog/ListValue$End;" (.ref w1)) (P3 : Old Z n0 h0) (P4 : (u2 &&& (1 : Int32)) = (0 : Int32)) (P5 : Exa Z h0 u1 "com/example/afterlog/afterlog/ListValue") (P6 : Fld Z h0 u1 "com/example/afterlog/afterlog/ListValue" "size" "I" (.int 1)) (P7 : Fld Z h0 u1 "com/example/afterlog/afterlog/ListValue" "elements" "[[B" (.ref u4)) (P8 : Ary Z h0 u4 u5 (.array .byte) (8 : Int32)) (Sg2 : Sta Z Z.heap "com/example/afterlog/afterlog/ListValue$End" "HEAD" "Lcom/example/afterlog/afterlog/ListValue$End;" (.ref w2)) (F_w1_ordinal : Fld Z Z.heap w1 "java/lang/Enum" "ordinal" "I" (.int 1)) (F_w2_ordinal : Fld Z Z.heap w2 "java/lang/Enum" "ordinal" "I" (.int 0)) (P12 : Fld Z h0 u1 "com/example/afterlog/afterlog/ListValue" "head" "I" (.int u6)) (P13 : ¬ u6 < (0 : Int32) ∧ u6 < (8 : Int32)) (P14 : Exa Z h0 u4 "[[B") (P15 : OvrA Z u5 .byte "[B") (P16 : Exa Z h0 u3 "[B") (P17 : n0 ≤ u4) (P18 : u1 ≠ u4) (P19 : n0 ≤ u1) :
    MF l Z (⟨"com/example/afterlog/afterlog/ListValueIsEmptyPinLaw", "step", "(Lcom/example/afterlog/afterlog/ListValue;II[B)I"⟩ : MethodName) (Jvm.Cond.code (⟨"com/example/afterlog/afterlog/ListValueIsEmptyPinLaw", "step", "(Lcom/example/afterlog/afterlog/ListValue;II[B)I"⟩ : MethodName) method_3_code 5 (some .int)) ws ({ frames := 2, cells := 0, slots := 0, locals := 29 } : Room) #[(.ref u1), (.int 1), (.int u2), (.ref u3)] h0 (Q4_26 Z u1 u2 u3 w1 u4 u5 w2 u6 h0 n0) := by
  refine MetFree.of_bodySF (plainFor_of_name pn_1) hisR ?_
  intro p e s m args below meth c s₁ Bd hml0 hP hK
  obtain ⟨rfl, hZ, hh⟩ := hP
  have hx := Bd.exec
  have hby := Bd.bytes
  have hml : c.maxLocals = 5 := hml0
  have hown : s.vm.findClass "com/example/afterlog/afterlog/ListValueIsEmptyPinLaw" = some m.cls := findClass_of_methodNamed Bd.named
  have hnm := (name_of_methodNamed Bd.named Bd.method).1
  have X0 : Stand p l e ({ frames := 2, cells := 0, slots := 0, locals := 29 } : Room) s m #[(.ref u1), (.int 1), (.int u2), (.ref u3)] below meth c s₁ [] 0 0 := Stand.of_body Bd
  have e0 : s₁.heap = h0 := by rw [← hh, Bd.state]; rfl
  have N0 := Fr.nil n0
  have pre0 : ∀ t, SF p e below s₁ (mkF m 0 #[rv u1, iv 1, iv u2, rv u3, .unset] []) t → SF p e below s₁ (entryFrame m #[(.ref u1), (.int 1), (.int u2), (.ref u3)] 5) t := fun t k => castTop (ef_4 m u1 (1 : Int32) u2 u3) k
  obtain ⟨T1, X1, e1, st1⟩ := getS2 X0 hx hZ hown (host := "") (Or.inl (tw hw 25 rfl)) Via.refl e0 (Sg0.ext P3.2) (g := (mkF m 12 #[rv u1, iv 1, iv u2, rv u3, .unset] [])) rfl (hb hby d4_12)
  obtain ⟨cq2, kq2, q2a, q2b, q2c⟩ := isOf hZ e1 P5
  obtain ⟨_, _, ⟨T2, L2, k2x, n2⟩, -, X2, ⟨Lc2, hQ2, l2, y2, z2⟩, st2⟩ := X1.virtualBack hx (y := (⟨"com/example/afterlog/afterlog/ListValue", "push", "(Lcom/example/afterlog/afterlog/ListValue$End;[B)V"⟩ : MethodName)) (z := (⟨"com/example/afterlog/afterlog/ListValue", "push", "(Lcom/example/afterlog/afterlog/ListValue$End;[B)V"⟩ : MethodName)) hown (mvT hZ (tw hw 28 rfl)) (mvT hZ (tw hw 29 rfl)) (notFace_of_selects (args := #[]) (mvT hZ (tw hw 31 rfl))) (mvT hZ (tw hw 31 rfl)) (mvT hZ (tw hw 30 rfl)) (by decide) (backOf (W := 0) (rm5_25 l Z a0 hw [] u1 w1 u3 u4 u5 w2 u6 h0 n0 Z0 P6 P7 P8 Sg2 P3 F_w1_ordinal F_w2_ordinal P5 P12 P13 P14 P15 P16 P17 P18 P19) hZ (tw hw 32 rfl) (tw hw 3 rfl) (by decide) (by decide)) q2a q2c (g := (mkF m 42 #[rv u1, iv 1, iv u2, rv u3, rv w1] [(.ref u3), (.ref w1), (.ref u1)])) rfl (by rw [hml]; rfl) (Steps.refl _) (argsL := [(.ref w1), (.ref u3)]) (rest := []) (lenOf pd_3 rfl) rfl (by show 2 * 0 + _ ≤ _; exact Nat.le_of_eq rfl) (hb hby d4_42) (fun _ _ => ⟨rfl, e1, (by decide : 0 + 0 ≤ _), (by decide : 0 + 0 ≤ _)⟩)
  dsimp only [Pt.U, Pt.locs, Pt.cells, Pt.slots] at X2 l2 y2 z2 st2 hQ2
  subst l2 y2 z2
  obtain ⟨rfl, N2q, K2c, Fq2_0, Fq2_1, Fq2_2, Fq2_3, Fq2_4, Fq2_5⟩ := hQ2
  have K2 : Keep h0 T2.heap [u4, u1] := (Keep.refl h0 [u4, u1]).trans K2c (allS (Or.inl (List.mem_of_getElem? (i := 0) rfl)) (allS (Or.inl (List.mem_of_getElem? (i := 1) rfl)) all0))
  have N2 := Fr.app N0 N2q
  obtain ⟨fs, hr, hrun, hended, hW, hsame⟩ := X2.leave (v := some (.int 2)) (fun h => by rw [Bd.returns] at h; cases h)
  refine ⟨_, _, pre0 _ ?_, hrun, hended, _, _, rfl, ?_, ⟨_, rfl⟩, hW, hsame.mono (by decide) (by decide)⟩
  · show SF p e below s₁ (mkF m 0 #[rv u1, iv 1, iv u2, rv u3, .unset] []) _
    refine XS.iloadN X0.here hx rfl (hb hby d4_0) rfl ?_
    show SF p e below s₁ (mkF m 1 #[rv u1, iv 1, iv u2, rv u3, .unset] [(.int u2)]) _
    refine XS.iconst X0.here hx rfl (hb hby d4_1) ?_
    show SF p e below s₁ (mkF m 2 #[rv u1, iv 1, iv u2, rv u3, .unset] [(.int 2), (.int u2)]) _
    refine XS.iand X0.here hx rfl (hb hby d4_2) rfl ?_
    show SF p e below s₁ (mkF m 3 #[rv u1, iv 1, iv u2, rv u3, .unset] [(.int (u2 &&& (2 : Int32)))]) _
    refine XS.ifYes X0.here hx rfl (pc0 := 3) (pc' := 12) rfl (hb hby d4_3) rfl ((if0 _ _).trans (teq P1).1) (by decide) (by decide) ?_
    show SF p e below s₁ (mkF m 12 #[rv u1, iv 1, iv u2, rv u3, .unset] []) _
    refine st1 _ ?_
    show SF p e below T1 (mkF m 15 #[rv u1, iv 1, iv u2, rv u3, .unset] [(.ref w1)]) _
    refine XS.astore X1.here hx rfl (hb hby d4_15) rfl rfl (l' := #[rv u1, iv 1, iv u2, rv u3, rv w1]) rfl ?_
    show SF p e below T1 (mkF m 17 #[rv u1, iv 1, iv u2, rv u3, rv w1] []) _
    refine XS.iloadN X1.here hx rfl (hb hby d4_17) rfl ?_
    show SF p e below T1 (mkF m 18 #[rv u1, iv 1, iv u2, rv u3, rv w1] [(.int u2)]) _
    refine XS.iconst X1.here hx rfl (hb hby d4_18) ?_
    show SF p e below T1 (mkF m 19 #[rv u1, iv 1, iv u2, rv u3, rv w1] [(.int 1), (.int u2)]) _
    refine XS.iand X1.here hx rfl (hb hby d4_19) rfl ?_
    show SF p e below T1 (mkF m 20 #[rv u1, iv 1, iv u2, rv u3, rv w1] [(.int (u2 &&& (1 : Int32)))]) _
    refine XS.ifYes X1.here hx rfl (pc0 := 20) (pc' := 38) rfl (hb hby d4_20) rfl ((if0 _ _).trans (teq P4).1) (by decide) (by decide) ?_
    show SF p e below T1 (mkF m 38 #[rv u1, iv 1, iv u2, rv u3, rv w1] []) _
    refine XS.aloadN X1.here hx rfl (hb hby d4_38) rfl rfl ?_
    show SF p e below T1 (mkF m 39 #[rv u1, iv 1, iv u2, rv u3, rv w1] [(.ref u1)]) _
    refine XS.aload X1.here hx rfl (hb hby d4_39) rfl rfl ?_
    show SF p e below T1 (mkF m 41 #[rv u1, iv 1, iv u2, rv u3, rv w1] [(.ref w1), (.ref u1)]) _
    refine XS.aloadN X1.here hx rfl (hb hby d4_41) rfl rfl ?_
    show SF p e below T1 (mkF m 42 #[rv u1, iv 1, iv u2, rv u3, rv w1] [(.ref u3), (.ref w1), (.ref u1)]) _
    refine st2.trans ?_
    show SF p e below T2 (mkF m 45 #[rv u1, iv 1, iv u2, rv u3, rv w1] []) _
    refine XS.iloadN X2.here hx rfl (hb hby d4_45) rfl ?_
    show SF p e below T2 (mkF m 46 #[rv u1, iv 1, iv u2, rv u3, rv w1] [(.int 1)]) _
    refine XS.iconst X2.here hx rfl (hb hby d4_46) ?_
    show SF p e below T2 (mkF m 47 #[rv u1, iv 1, iv u2, rv u3, rv w1] [(.int 1), (.int 1)]) _
    refine XS.iadd X2.here hx rfl (hb hby d4_47) rfl ?_
    show SF p e below T2 (mkF m 48 #[rv u1, iv 1, iv u2, rv u3, rv w1] [(.int ((1 : Int32) + (1 : Int32)))]) _
    rw [show ((1 : Int32) + (1 : Int32)) = (2 : Int32) from by decide]
    show SF p e below T2 (mkF m 48 #[rv u1, iv 1, iv u2, rv u3, rv w1] [(.int 2)]) _
    exact retI X2 hx Bd.returns (hb hby d4_48) hr
  · show Q4_26 Z u1 u2 u3 w1 u4 u5 w2 u6 h0 n0 _ T2.heap _
    exact ⟨rfl, N2, K2, Fq2_1, Fq2_0, Fq2_4, Fq2_2, Fq2_3, Fq2_5⟩
-- ListValue.pop 
def Q7_27 (Z : State) (u1 : Addr) (w1 : Addr) (w2 : Addr) (u2 : Addr) (u3 : Int32) (u4 : ClassId) (h0 : Heap) (n0 : Nat) (v : Option Value) (h : Heap) (L : List Loc) : Prop := ∃ e1x : Value, (e1x.isRef = true) ∧ v = some e1x ∧ Fr n0 L ∧ Keep h0 h [u2, u1] ∧ Ary Z h u2 u4 (.array .byte) (8 : Int32) ∧ Exa Z h u2 "[[B" ∧ Fld Z h u1 "com/example/afterlog/afterlog/ListValue" "size" "I" (.int 0) ∧ Exa Z h u1 "com/example/afterlog/afterlog/ListValue" ∧ Fld Z h u1 "com/example/afterlog/afterlog/ListValue" "elements" "[[B" (.ref u2) ∧ Fld Z h u1 "com/example/afterlog/afterlog/ListValue" "head" "I" (.int u3)
set_option maxRecDepth 65536 in
set_option maxHeartbeats 40000000 in
theorem rm7_27 (l : Launch) (Z : State) (a0 : Array Value) (hw : HW Z a0) (ws : List Jvm.Cond) (u1 : Addr) (w1 : Addr) (w2 : Addr) (u2 : Addr) (u3 : Int32) (u4 : ClassId) (h0 : Heap) (n0 : Nat) (Z0 : n0 ≤ h0.size) (Sg2 : Sta Z Z.heap "com/example/afterlog/afterlog/ListValue$End" "HEAD" "Lcom/example/afterlog/afterlog/ListValue$End;" (.ref w2)) (P2 : Old Z n0 h0) (F_w1_ordinal : Fld Z Z.heap w1 "java/lang/Enum" "ordinal" "I" (.int 1)) (F_w2_ordinal : Fld Z Z.heap w2 "java/lang/Enum" "ordinal" "I" (.int 0)) (P5 : Fld Z h0 u1 "com/example/afterlog/afterlog/ListValue" "size" "I" (.int 1)) (P6 : Exa Z h0 u1 "com/example/afterlog/afterlog/ListValue") (P7 : Fld Z h0 u1 "com/example/afterlog/afterlog/ListValue" "elements" "[[B" (.ref u2)) (P8 : Fld Z h0 u1 "com/example/afterlog/afterlog/ListValue" "head" "I" (.int u3)) (P9 : Ary Z h0 u2 u4 (.array .byte) (8 : Int32)) (P10 : ¬ u3 < (0 : Int32) ∧ u3 < (8 : Int32)) (P11 : Exa Z h0 u2 "[[B") (P12 : n0 ≤ u2) (P13 : u1 ≠ u2) (P14 : n0 ≤ u1) :
    MF l Z (⟨"com/example/afterlog/afterlog/ListValue", "pop", "(Lcom/example/afterlog/afterlog/ListValue$End;)[B"⟩ : MethodName) (Jvm.Cond.code (⟨"com/example/afterlog/afterlog/ListValue", "pop", "(Lcom/example/afterlog/afterlog/ListValue$End;)[B"⟩ : MethodName) prog_24_method_7_code 4 (some (.array .byte))) ws ({ frames := 1, cells := 0, slots := 0, locals := 14 } : Room) #[(.ref u1), (.ref w1)] h0 (Q7_27 Z u1 w1 w2 u2 u3 u4 h0 n0) := by
  refine MetFree.of_bodySF (plainFor_of_name pn_0) hisR ?_
  intro p e s m args below meth c s₁ Bd hml0 hP hK
  obtain ⟨rfl, hZ, hh⟩ := hP
  have hx := Bd.exec
  have hby := Bd.bytes
  have hml : c.maxLocals = 4 := hml0
  have hown : s.vm.findClass "com/example/afterlog/afterlog/ListValue" = some m.cls := findClass_of_methodNamed Bd.named
  have hnm := (name_of_methodNamed Bd.named Bd.method).1
  have X0 : Stand p l e ({ frames := 1, cells := 0, slots := 0, locals := 14 } : Room) s m #[(.ref u1), (.ref w1)] below meth c s₁ [] 0 0 := Stand.of_body Bd
  have e0 : s₁.heap = h0 := by rw [← hh, Bd.state]; rfl
  have N0 := Fr.nil n0
  have pre0 : ∀ t, SF p e below s₁ (mkF m 0 #[rv u1, rv w1, .unset, .unset] []) t → SF p e below s₁ (entryFrame m #[(.ref u1), (.ref w1)] 4) t := fun t k => castTop (ef_5 m u1 w1) k
  obtain ⟨T1, X1, e1, st1⟩ := getS2 X0 hx hZ hown (host := "") (Or.inl (tw hw 33 rfl)) Via.refl e0 (Sg2.ext P2.2) (g := (mkF m 1 #[rv u1, rv w1, .unset, .unset] [(.ref w1)])) rfl (hb hby d7_1)
  obtain ⟨T2, X2, e2, st2⟩ := getF X1 hx hZ hown (host := "") (Or.inl (tw hw 19 rfl)) Via.refl e1 P5 (g := (mkF m 16 #[rv u1, rv w1, .unset, .unset] [(.ref u1), (.ref u1)])) rfl rfl (hb hby d7_16)
  obtain ⟨cq3, q3, q3'⟩ := P6.cell
  obtain ⟨_, _, ⟨T3, L3, k3x, n3⟩, -, X3, ⟨Lc3, hQ3, l3, y3, z3⟩, st3⟩ := X2.privateBack hx (y := (⟨"com/example/afterlog/afterlog/ListValue", "slot", "(I)I"⟩ : MethodName)) hown (mvT hZ (tw hw 35 rfl)) (mvT hZ (tw hw 36 rfl)) (own_selP hZ (tw hw 2 rfl) (tw hw 37 rfl) (tw hw 36 rfl) (by decide)) (Cond.privateMethod_at (mvP hZ (tw hw 37 rfl) (args := #[]))) (mvT hZ (tw hw 38 rfl)) (by decide) (backOf (W := 0) (own_slot l Z a0 hw [] u1 u2 u4 u3 (0 : Int32) h0 n0 Z0 P7 P8 P9 P10 ⟨by decide, by decide⟩) hZ (tw hw 38 rfl) (tw hw 3 rfl) (by decide) (by decide)) (g := (mkF m 21 #[rv u1, rv w1, .unset, .unset] [(.int 0), (.ref u1)])) rfl (by rw [hml]; rfl) (Steps.refl _) (a := u1) (by rw [e2]; exact q3) q3' (argsL := [(.int 0)]) (rest := []) (lenOf pd_2 rfl) rfl (by show 2 * 0 + _ ≤ _; exact Nat.le_of_eq rfl) (hb hby d7_21) (fun _ _ => ⟨rfl, e2, (by decide : 0 + 0 ≤ _), (by decide : 0 + 0 ≤ _)⟩)
  dsimp only [Pt.U, Pt.locs, Pt.cells, Pt.slots] at X3 l3 y3 z3 st3 hQ3
  subst l3 y3 z3
  obtain ⟨w6x, bx_i11, rfl, N3q, e3⟩ := hQ3
  have N3 := Fr.app N0 N3q
  obtain ⟨T4, X4, e4, st4⟩ := getF X3 hx hZ hown (host := "") (Or.inl (tw hw 12 rfl)) Via.refl e3 P7 (g := (mkF m 26 #[rv u1, rv w1, iv w6x, .unset] [(.ref u1)])) rfl rfl (hb hby d7_26)
  obtain ⟨cl5, Ar5, q5, S5, N5z, H5⟩ := id P9
  have hin5 : ¬ (w6x < 0 ∨ cl5.slots.size ≤ (w6x).toNatClampNeg) := inb_of S5 ⟨(bx_i11).1, (bx_i11).2⟩
  obtain ⟨e1x, hat5, rv5⟩ := H5 (w6x).toNatClampNeg (Nat.lt_of_not_le fun y => hin5 (Or.inr y))
  obtain ⟨T6, X6, e6, st6⟩ := getF X4 hx hZ hown (host := "") (Or.inl (tw hw 12 rfl)) Via.refl e4 P7 (g := (mkF m 33 #[rv u1, rv w1, iv w6x, .val e1x] [(.ref u1)])) rfl rfl (hb hby d7_33)
  obtain ⟨cl7, Ar7, q7, S7, N7z, H7⟩ := id P9
  have hin7 : ¬ (w6x < 0 ∨ cl7.slots.size ≤ (w6x).toNatClampNeg) := inb_of S7 ⟨(bx_i11).1, (bx_i11).2⟩
  obtain ⟨T8, h8, X8, e8, W8, st8⟩ := stR X6 hx hZ e6 Ar7 (j := w6x) hin7 rfl (Or.inl rfl) (g := (mkF m 38 #[rv u1, rv w1, iv w6x, .val e1x] [.null, (.int w6x), (.ref u2)])) rfl rfl (hb hby d7_38)
  have K8 : Keep h0 h8 [u2, u1] := (Keep.refl h0 [u2, u1]).wr W8 (Or.inl (List.mem_of_getElem? (i := 0) rfl))
  have N8 := Fr.snoc X8 N3 P12
  have V8 : Ary Z h8 u2 u4 (.array .byte) (8 : Int32) := Ary.set Ar7 q7 S7 N7z H7 rfl W8
  have O8 : Old Z n0 h8 := P2.wr W8 P12
  obtain ⟨T9, X9, e9, st9⟩ := getS2 X8 hx hZ hown (host := "") (Or.inl (tw hw 33 rfl)) Via.refl e8 (Sg2.ext O8.2) (g := (mkF m 40 #[rv u1, rv w1, iv w6x, .val e1x] [(.ref w1)])) rfl (hb hby d7_40)
  have F1_10 : Fld Z h8 u1 "com/example/afterlog/afterlog/ListValue" "size" "I" (.int 1) := P5.other W8 (Or.inl P13)
  obtain ⟨T11, X11, e11, st11⟩ := getF X9 hx hZ hown (host := "") (Or.inl (tw hw 19 rfl)) Via.refl e9 F1_10 (g := (mkF m 57 #[rv u1, rv w1, iv w6x, .val e1x] [(.ref u1), (.ref u1)])) rfl rfl (hb hby d7_57)
  have F1_12 : Exa Z h8 u1 "com/example/afterlog/afterlog/ListValue" := P6.wr W8
  have F1_13 : Fld Z h8 u1 "com/example/afterlog/afterlog/ListValue" "elements" "[[B" (.ref u2) := P7.other W8 (Or.inl P13)
  have F1_14 : Fld Z h8 u1 "com/example/afterlog/afterlog/ListValue" "head" "I" (.int u3) := P8.other W8 (Or.inl P13)
  obtain ⟨T15, h15, X15, e15, W15, st15⟩ := putF X11 hx hZ hown (host := "") (Or.inl (tw hw 19 rfl)) Via.refl e11 F1_10 F1_12 (Or.inl (tw hw 20 rfl)) (tw hw 2 rfl) (ty := .int) (by decide) rfl rfl (g := (mkF m 62 #[rv u1, rv w1, iv w6x, .val e1x] [(.int 0), (.ref u1)])) rfl rfl (hb hby d7_62)
  have K15 : Keep h0 h15 [u2, u1] := K8.wr W15 (Or.inl (List.mem_of_getElem? (i := 1) rfl))
  have N15 := Fr.snoc X15 N8 P14
  have Fw15 : Fld Z h15 u1 "com/example/afterlog/afterlog/ListValue" "size" "I" (.int 0) := F1_10.same W15
  have F2_16 : Ary Z h15 u2 u4 (.array .byte) (8 : Int32) := V8.other W15 (Ne.symm P13)
  have F1_17 : Exa Z h8 u2 "[[B" := P11.wr W8
  have F2_18 : Exa Z h15 u2 "[[B" := F1_17.wr W15
  have F2_19 : Exa Z h15 u1 "com/example/afterlog/afterlog/ListValue" := F1_12.wr W15
  have F2_20 : Fld Z h15 u1 "com/example/afterlog/afterlog/ListValue" "elements" "[[B" (.ref u2) := F1_13.other W15 (Or.inr (slot_ne (Or.inl (tw hw 13 rfl)) (Or.inl (tw hw 20 rfl)) (by decide) (t := (.array (.array .byte))) (t' := .int) (by decide) (by decide)))
  have F2_21 : Fld Z h15 u1 "com/example/afterlog/afterlog/ListValue" "head" "I" (.int u3) := F1_14.other W15 (Or.inr (slot_ne (Or.inl (tw hw 40 rfl)) (Or.inl (tw hw 20 rfl)) (by decide) (t := .int) (t' := .int) (by decide) (by decide)))
  obtain ⟨fs, hr, hrun, hended, hW, hsame⟩ := X15.leave (v := some e1x) (fun h => by rw [Bd.returns] at h; cases h)
  refine ⟨_, _, pre0 _ ?_, hrun, hended, _, _, rfl, ?_, ⟨_, rfl⟩, hW, hsame.mono (by decide) (by decide)⟩
  · show SF p e below s₁ (mkF m 0 #[rv u1, rv w1, .unset, .unset] []) _
    refine XS.aloadN X0.here hx rfl (hb hby d7_0) rfl rfl ?_
    show SF p e below s₁ (mkF m 1 #[rv u1, rv w1, .unset, .unset] [(.ref w1)]) _
    refine st1 _ ?_
    show SF p e below T1 (mkF m 4 #[rv u1, rv w1, .unset, .unset] [(.ref w2), (.ref w1)]) _
    refine Jvm.RoadKit.acmp (g := (mkF m 4 #[rv u1, rv w1, .unset, .unset] [(.ref w2), (.ref w1)])) X1 hx rfl rfl rfl (pc0 := 4) (pc' := 14) (same := false) rfl (hb hby d7_4) rfl (decide_eq_false fun q => (Fld.ne F_w1_ordinal F_w2_ordinal (by decide)) (Value.ref.inj q)) (by decide) (by decide) ?_
    show SF p e below T1 (mkF m 14 #[rv u1, rv w1, .unset, .unset] []) _
    refine XS.aloadN X1.here hx rfl (hb hby d7_14) rfl rfl ?_
    show SF p e below T1 (mkF m 15 #[rv u1, rv w1, .unset, .unset] [(.ref u1)]) _
    refine XS.aloadN X1.here hx rfl (hb hby d7_15) rfl rfl ?_
    show SF p e below T1 (mkF m 16 #[rv u1, rv w1, .unset, .unset] [(.ref u1), (.ref u1)]) _
    refine st2 _ ?_
    show SF p e below T2 (mkF m 19 #[rv u1, rv w1, .unset, .unset] [(.int 1), (.ref u1)]) _
    refine XS.iconst X2.here hx rfl (hb hby d7_19) ?_
    show SF p e below T2 (mkF m 20 #[rv u1, rv w1, .unset, .unset] [(.int 1), (.int 1), (.ref u1)]) _
    refine XS.isub X2.here hx rfl (hb hby d7_20) rfl ?_
    show SF p e below T2 (mkF m 21 #[rv u1, rv w1, .unset, .unset] [(.int ((1 : Int32) - (1 : Int32))), (.ref u1)]) _
    rw [show ((1 : Int32) - (1 : Int32)) = (0 : Int32) from by decide]
    show SF p e below T2 (mkF m 21 #[rv u1, rv w1, .unset, .unset] [(.int 0), (.ref u1)]) _
    refine st3.trans ?_
    show SF p e below T3 (mkF m 24 #[rv u1, rv w1, .unset, .unset] [(.int w6x)]) _
    refine XS.istoreN X3.here hx rfl (hb hby d7_24) rfl (l' := #[rv u1, rv w1, iv w6x, .unset]) rfl ?_
    show SF p e below T3 (mkF m 25 #[rv u1, rv w1, iv w6x, .unset] []) _
    refine XS.aloadN X3.here hx rfl (hb hby d7_25) rfl rfl ?_
    show SF p e below T3 (mkF m 26 #[rv u1, rv w1, iv w6x, .unset] [(.ref u1)]) _
    refine st4 _ ?_
    show SF p e below T4 (mkF m 29 #[rv u1, rv w1, iv w6x, .unset] [(.ref u2)]) _
    refine XS.iloadN X4.here hx rfl (hb hby d7_29) rfl ?_
    show SF p e below T4 (mkF m 30 #[rv u1, rv w1, iv w6x, .unset] [(.int w6x), (.ref u2)]) _
    refine X4.aaload hx (j := w6x) (v := e1x) (by rw [e4]; exact Ar5.1) (State.isArrayOf_alike hZ.alike Ar5.2.1) rfl Ar5.2.2 hin5 hat5 (g := (mkF m 30 #[rv u1, rv w1, iv w6x, .unset] [(.int w6x), (.ref u2)])) rfl rfl (hb hby d7_30) _ ?_
    show SF p e below T4 (mkF m 31 #[rv u1, rv w1, iv w6x, .unset] [e1x]) _
    refine XS.astoreN X4.here hx rfl (hb hby d7_31) rfl rv5 (l' := #[rv u1, rv w1, iv w6x, .val e1x]) (by rcases ref_cases rv5 with h | ⟨_, h⟩ <;> subst h <;> rfl) ?_
    show SF p e below T4 (mkF m 32 #[rv u1, rv w1, iv w6x, .val e1x] []) _
    refine XS.aloadN X4.here hx rfl (hb hby d7_32) rfl rfl ?_
    show SF p e below T4 (mkF m 33 #[rv u1, rv w1, iv w6x, .val e1x] [(.ref u1)]) _
    refine st6 _ ?_
    show SF p e below T6 (mkF m 36 #[rv u1, rv w1, iv w6x, .val e1x] [(.ref u2)]) _
    refine XS.iloadN X6.here hx rfl (hb hby d7_36) rfl ?_
    show SF p e below T6 (mkF m 37 #[rv u1, rv w1, iv w6x, .val e1x] [(.int w6x), (.ref u2)]) _
    refine XS.aconstNull X6.here hx rfl (hb hby d7_37) ?_
    show SF p e below T6 (mkF m 38 #[rv u1, rv w1, iv w6x, .val e1x] [.null, (.int w6x), (.ref u2)]) _
    refine st8 _ ?_
    show SF p e below T8 (mkF m 39 #[rv u1, rv w1, iv w6x, .val e1x] []) _
    refine XS.aloadN X8.here hx rfl (hb hby d7_39) rfl rfl ?_
    show SF p e below T8 (mkF m 40 #[rv u1, rv w1, iv w6x, .val e1x] [(.ref w1)]) _
    refine st9 _ ?_
    show SF p e below T9 (mkF m 43 #[rv u1, rv w1, iv w6x, .val e1x] [(.ref w2), (.ref w1)]) _
    refine Jvm.RoadKit.acmp (g := (mkF m 43 #[rv u1, rv w1, iv w6x, .val e1x] [(.ref w2), (.ref w1)])) X9 hx rfl rfl rfl (pc0 := 43) (pc' := 55) (same := false) rfl (hb hby d7_43) rfl (decide_eq_false fun q => (Fld.ne F_w1_ordinal F_w2_ordinal (by decide)) (Value.ref.inj q)) (by decide) (by decide) ?_
    show SF p e below T9 (mkF m 55 #[rv u1, rv w1, iv w6x, .val e1x] []) _
    refine XS.aloadN X9.here hx rfl (hb hby d7_55) rfl rfl ?_
    show SF p e below T9 (mkF m 56 #[rv u1, rv w1, iv w6x, .val e1x] [(.ref u1)]) _
    refine XS.dup X9.here hx rfl (hb hby d7_56) rfl rfl ?_
    show SF p e below T9 (mkF m 57 #[rv u1, rv w1, iv w6x, .val e1x] [(.ref u1), (.ref u1)]) _
    refine st11 _ ?_
    show SF p e below T11 (mkF m 60 #[rv u1, rv w1, iv w6x, .val e1x] [(.int 1), (.ref u1)]) _
    refine XS.iconst X11.here hx rfl (hb hby d7_60) ?_
    show SF p e below T11 (mkF m 61 #[rv u1, rv w1, iv w6x, .val e1x] [(.int 1), (.int 1), (.ref u1)]) _
    refine XS.isub X11.here hx rfl (hb hby d7_61) rfl ?_
    show SF p e below T11 (mkF m 62 #[rv u1, rv w1, iv w6x, .val e1x] [(.int ((1 : Int32) - (1 : Int32))), (.ref u1)]) _
    rw [show ((1 : Int32) - (1 : Int32)) = (0 : Int32) from by decide]
    show SF p e below T11 (mkF m 62 #[rv u1, rv w1, iv w6x, .val e1x] [(.int 0), (.ref u1)]) _
    refine st15 _ ?_
    show SF p e below T15 (mkF m 65 #[rv u1, rv w1, iv w6x, .val e1x] []) _
    refine XS.aloadN X15.here hx rfl (hb hby d7_65) rfl rv5 ?_
    show SF p e below T15 (mkF m 66 #[rv u1, rv w1, iv w6x, .val e1x] [e1x]) _
    exact own_retR X15 hx Bd.returns rfl rv5 (hb hby d7_66) hr
  · show Q7_27 Z u1 w1 w2 u2 u3 u4 h0 n0 _ T15.heap _
    rw [e15]
    exact ⟨e1x, rv5, rfl, N15, K15, F2_16, F2_18, Fw15, F2_19, F2_20, F2_21⟩
-- ListValueIsEmptyPinLaw.step 
def Q4_28 (Z : State) (u1 : Addr) (u2 : Int32) (u3 : Addr) (w1 : Addr) (w2 : Addr) (u4 : Addr) (u5 : Int32) (u6 : ClassId) (h0 : Heap) (n0 : Nat) (v : Option Value) (h : Heap) (L : List Loc) : Prop := v = some (.int 0) ∧ Fr n0 L ∧ Keep h0 h [u4, u1] ∧ Exa Z h u4 "[[B" ∧ Ary Z h u4 u6 (.array .byte) (8 : Int32) ∧ Exa Z h u1 "com/example/afterlog/afterlog/ListValue" ∧ Fld Z h u1 "com/example/afterlog/afterlog/ListValue" "size" "I" (.int 0) ∧ Fld Z h u1 "com/example/afterlog/afterlog/ListValue" "elements" "[[B" (.ref u4) ∧ Fld Z h u1 "com/example/afterlog/afterlog/ListValue" "head" "I" (.int u5)
set_option maxRecDepth 65536 in
set_option maxHeartbeats 40000000 in
theorem rm4_28 (l : Launch) (Z : State) (a0 : Array Value) (hw : HW Z a0) (ws : List Jvm.Cond) (u1 : Addr) (u2 : Int32) (u3 : Addr) (w1 : Addr) (w2 : Addr) (u4 : Addr) (u5 : Int32) (u6 : ClassId) (h0 : Heap) (n0 : Nat) (Z0 : n0 ≤ h0.size) (P1 : (u2 &&& (2 : Int32)) = (0 : Int32)) (Sg0 : Sta Z Z.heap "com/example/afterlog/afterlog/ListValue$End" "TAIL" "Lcom/example/afterlog/afterlog/ListValue$End;" (.ref w1)) (P3 : Old Z n0 h0) (P4 : ¬ ((u2 &&& (1 : Int32)) = (0 : Int32))) (P5 : Exa Z h0 u1 "com/example/afterlog/afterlog/ListValue") (Sg2 : Sta Z Z.heap "com/example/afterlog/afterlog/ListValue$End" "HEAD" "Lcom/example/afterlog/afterlog/ListValue$End;" (.ref w2)) (F_w1_ordinal : Fld Z Z.heap w1 "java/lang/Enum" "ordinal" "I" (.int 1)) (F_w2_ordinal : Fld Z Z.heap w2 "java/lang/Enum" "ordinal" "I" (.int 0)) (P9 : Fld Z h0 u1 "com/example/afterlog/afterlog/ListValue" "size" "I" (.int 1)) (P10 : Fld Z h0 u1 "com/example/afterlog/afterlog/ListValue" "elements" "[[B" (.ref u4)) (P11 : Fld Z h0 u1 "com/example/afterlog/afterlog/ListValue" "head" "I" (.int u5)) (P12 : Ary Z h0 u4 u6 (.array .byte) (8 : Int32)) (P13 : ¬ u5 < (0 : Int32) ∧ u5 < (8 : Int32)) (P14 : Exa Z h0 u4 "[[B") (P15 : n0 ≤ u4) (P16 : u1 ≠ u4) (P17 : n0 ≤ u1) :
    MF l Z (⟨"com/example/afterlog/afterlog/ListValueIsEmptyPinLaw", "step", "(Lcom/example/afterlog/afterlog/ListValue;II[B)I"⟩ : MethodName) (Jvm.Cond.code (⟨"com/example/afterlog/afterlog/ListValueIsEmptyPinLaw", "step", "(Lcom/example/afterlog/afterlog/ListValue;II[B)I"⟩ : MethodName) method_3_code 5 (some .int)) ws ({ frames := 2, cells := 0, slots := 0, locals := 29 } : Room) #[(.ref u1), (.int 1), (.int u2), (.ref u3)] h0 (Q4_28 Z u1 u2 u3 w1 w2 u4 u5 u6 h0 n0) := by
  refine MetFree.of_bodySF (plainFor_of_name pn_1) hisR ?_
  intro p e s m args below meth c s₁ Bd hml0 hP hK
  obtain ⟨rfl, hZ, hh⟩ := hP
  have hx := Bd.exec
  have hby := Bd.bytes
  have hml : c.maxLocals = 5 := hml0
  have hown : s.vm.findClass "com/example/afterlog/afterlog/ListValueIsEmptyPinLaw" = some m.cls := findClass_of_methodNamed Bd.named
  have hnm := (name_of_methodNamed Bd.named Bd.method).1
  have X0 : Stand p l e ({ frames := 2, cells := 0, slots := 0, locals := 29 } : Room) s m #[(.ref u1), (.int 1), (.int u2), (.ref u3)] below meth c s₁ [] 0 0 := Stand.of_body Bd
  have e0 : s₁.heap = h0 := by rw [← hh, Bd.state]; rfl
  have N0 := Fr.nil n0
  have pre0 : ∀ t, SF p e below s₁ (mkF m 0 #[rv u1, iv 1, iv u2, rv u3, .unset] []) t → SF p e below s₁ (entryFrame m #[(.ref u1), (.int 1), (.int u2), (.ref u3)] 5) t := fun t k => castTop (ef_4 m u1 (1 : Int32) u2 u3) k
  obtain ⟨T1, X1, e1, st1⟩ := getS2 X0 hx hZ hown (host := "") (Or.inl (tw hw 25 rfl)) Via.refl e0 (Sg0.ext P3.2) (g := (mkF m 12 #[rv u1, iv 1, iv u2, rv u3, .unset] [])) rfl (hb hby d4_12)
  obtain ⟨cq2, kq2, q2a, q2b, q2c⟩ := isOf hZ e1 P5
  obtain ⟨_, _, ⟨T2, L2, k2x, n2⟩, -, X2, ⟨Lc2, hQ2, l2, y2, z2⟩, st2⟩ := X1.virtualBack hx (y := (⟨"com/example/afterlog/afterlog/ListValue", "pop", "(Lcom/example/afterlog/afterlog/ListValue$End;)[B"⟩ : MethodName)) (z := (⟨"com/example/afterlog/afterlog/ListValue", "pop", "(Lcom/example/afterlog/afterlog/ListValue$End;)[B"⟩ : MethodName)) hown (mvT hZ (tw hw 43 rfl)) (mvT hZ (tw hw 44 rfl)) (notFace_of_selects (args := #[]) (mvT hZ (tw hw 46 rfl))) (mvT hZ (tw hw 46 rfl)) (mvT hZ (tw hw 45 rfl)) (by decide) (backOf (W := 0) (rm7_27 l Z a0 hw [] u1 w1 w2 u4 u5 u6 h0 n0 Z0 Sg2 P3 F_w1_ordinal F_w2_ordinal P9 P5 P10 P11 P12 P13 P14 P15 P16 P17) hZ (tw hw 47 rfl) (tw hw 3 rfl) (by decide) (by decide)) q2a q2c (g := (mkF m 30 #[rv u1, iv 1, iv u2, rv u3, rv w1] [(.ref w1), (.ref u1)])) rfl (by rw [hml]; rfl) (Steps.refl _) (argsL := [(.ref w1)]) (rest := []) (lenOf pd_5 rfl) rfl (by show 2 * 0 + _ ≤ _; exact Nat.le_of_eq rfl) (hb hby d4_30) (fun _ _ => ⟨rfl, e1, (by decide : 0 + 0 ≤ _), (by decide : 0 + 0 ≤ _)⟩)
  dsimp only [Pt.U, Pt.locs, Pt.cells, Pt.slots] at X2 l2 y2 z2 st2 hQ2
  subst l2 y2 z2
  obtain ⟨w7x, bx_vx13, rfl, N2q, K2c, Fq2_0, Fq2_1, Fq2_2, Fq2_3, Fq2_4, Fq2_5⟩ := hQ2
  have K2 : Keep h0 T2.heap [u4, u1] := (Keep.refl h0 [u4, u1]).trans K2c (allS (Or.inl (List.mem_of_getElem? (i := 0) rfl)) (allS (Or.inl (List.mem_of_getElem? (i := 1) rfl)) all0))
  have N2 := Fr.app N0 N2q
  obtain ⟨fs, hr, hrun, hended, hW, hsame⟩ := X2.leave (v := some (.int 0)) (fun h => by rw [Bd.returns] at h; cases h)
  refine ⟨_, _, pre0 _ ?_, hrun, hended, _, _, rfl, ?_, ⟨_, rfl⟩, hW, hsame.mono (by decide) (by decide)⟩
  · show SF p e below s₁ (mkF m 0 #[rv u1, iv 1, iv u2, rv u3, .unset] []) _
    refine XS.iloadN X0.here hx rfl (hb hby d4_0) rfl ?_
    show SF p e below s₁ (mkF m 1 #[rv u1, iv 1, iv u2, rv u3, .unset] [(.int u2)]) _
    refine XS.iconst X0.here hx rfl (hb hby d4_1) ?_
    show SF p e below s₁ (mkF m 2 #[rv u1, iv 1, iv u2, rv u3, .unset] [(.int 2), (.int u2)]) _
    refine XS.iand X0.here hx rfl (hb hby d4_2) rfl ?_
    show SF p e below s₁ (mkF m 3 #[rv u1, iv 1, iv u2, rv u3, .unset] [(.int (u2 &&& (2 : Int32)))]) _
    refine XS.ifYes X0.here hx rfl (pc0 := 3) (pc' := 12) rfl (hb hby d4_3) rfl ((if0 _ _).trans (teq P1).1) (by decide) (by decide) ?_
    show SF p e below s₁ (mkF m 12 #[rv u1, iv 1, iv u2, rv u3, .unset] []) _
    refine st1 _ ?_
    show SF p e below T1 (mkF m 15 #[rv u1, iv 1, iv u2, rv u3, .unset] [(.ref w1)]) _
    refine XS.astore X1.here hx rfl (hb hby d4_15) rfl rfl (l' := #[rv u1, iv 1, iv u2, rv u3, rv w1]) rfl ?_
    show SF p e below T1 (mkF m 17 #[rv u1, iv 1, iv u2, rv u3, rv w1] []) _
    refine XS.iloadN X1.here hx rfl (hb hby d4_17) rfl ?_
    show SF p e below T1 (mkF m 18 #[rv u1, iv 1, iv u2, rv u3, rv w1] [(.int u2)]) _
    refine XS.iconst X1.here hx rfl (hb hby d4_18) ?_
    show SF p e below T1 (mkF m 19 #[rv u1, iv 1, iv u2, rv u3, rv w1] [(.int 1), (.int u2)]) _
    refine XS.iand X1.here hx rfl (hb hby d4_19) rfl ?_
    show SF p e below T1 (mkF m 20 #[rv u1, iv 1, iv u2, rv u3, rv w1] [(.int (u2 &&& (1 : Int32)))]) _
    refine XS.ifNo X1.here hx rfl (hb hby d4_20) rfl ((if0 _ _).trans (feq P4).1) ?_
    show SF p e below T1 (mkF m 23 #[rv u1, iv 1, iv u2, rv u3, rv w1] []) _
    refine XS.iloadN X1.here hx rfl (hb hby d4_23) rfl ?_
    show SF p e below T1 (mkF m 24 #[rv u1, iv 1, iv u2, rv u3, rv w1] [(.int 1)]) _
    refine XS.ifNo X1.here hx rfl (hb hby d4_24) rfl ((if0 _ _).trans (tlt (by decide : (0 : Int32) < (1 : Int32))).2.2.2) ?_
    show SF p e below T1 (mkF m 27 #[rv u1, iv 1, iv u2, rv u3, rv w1] []) _
    refine XS.aloadN X1.here hx rfl (hb hby d4_27) rfl rfl ?_
    show SF p e below T1 (mkF m 28 #[rv u1, iv 1, iv u2, rv u3, rv w1] [(.ref u1)]) _
    refine XS.aload X1.here hx rfl (hb hby d4_28) rfl rfl ?_
    show SF p e below T1 (mkF m 30 #[rv u1, iv 1, iv u2, rv u3, rv w1] [(.ref w1), (.ref u1)]) _
    refine st2.trans ?_
    show SF p e below T2 (mkF m 33 #[rv u1, iv 1, iv u2, rv u3, rv w1] [w7x]) _
    refine XS.pop X2.here hx rfl (hb hby d4_33) rfl (by rcases ref_cases bx_vx13 with h | ⟨_, h⟩ <;> subst h <;> rfl) ?_
    show SF p e below T2 (mkF m 34 #[rv u1, iv 1, iv u2, rv u3, rv w1] []) _
    refine XS.iloadN X2.here hx rfl (hb hby d4_34) rfl ?_
    show SF p e below T2 (mkF m 35 #[rv u1, iv 1, iv u2, rv u3, rv w1] [(.int 1)]) _
    refine XS.iconst X2.here hx rfl (hb hby d4_35) ?_
    show SF p e below T2 (mkF m 36 #[rv u1, iv 1, iv u2, rv u3, rv w1] [(.int 1), (.int 1)]) _
    refine XS.isub X2.here hx rfl (hb hby d4_36) rfl ?_
    show SF p e below T2 (mkF m 37 #[rv u1, iv 1, iv u2, rv u3, rv w1] [(.int ((1 : Int32) - (1 : Int32)))]) _
    rw [show ((1 : Int32) - (1 : Int32)) = (0 : Int32) from by decide]
    show SF p e below T2 (mkF m 37 #[rv u1, iv 1, iv u2, rv u3, rv w1] [(.int 0)]) _
    exact retI X2 hx Bd.returns (hb hby d4_37) hr
  · show Q4_28 Z u1 u2 u3 w1 w2 u4 u5 u6 h0 n0 _ T2.heap _
    exact ⟨rfl, N2, K2, Fq2_1, Fq2_0, Fq2_3, Fq2_2, Fq2_4, Fq2_5⟩
-- ListValue.push 
def Q5_29 (Z : State) (u1 : Addr) (w2 : Addr) (u2 : Addr) (u3 : Addr) (u4 : ClassId) (u5 : Int32) (h0 : Heap) (n0 : Nat) (v : Option Value) (h : Heap) (L : List Loc) : Prop := ∃ e1x : Int32, (¬ e1x < (0 : Int32) ∧ e1x < (8 : Int32)) ∧ v = none ∧ Fr n0 L ∧ Keep h0 h [u1, u3] ∧ Fld Z h u1 "com/example/afterlog/afterlog/ListValue" "size" "I" (.int 2) ∧ Fld Z h u1 "com/example/afterlog/afterlog/ListValue" "elements" "[[B" (.ref u3) ∧ Exa Z h u1 "com/example/afterlog/afterlog/ListValue" ∧ Fld Z h u1 "com/example/afterlog/afterlog/ListValue" "head" "I" (.int e1x) ∧ Ary Z h u3 u4 (.array .byte) (8 : Int32) ∧ Exa Z h u3 "[[B"
set_option maxRecDepth 65536 in
set_option maxHeartbeats 40000000 in
theorem rm5_29 (l : Launch) (Z : State) (a0 : Array Value) (hw : HW Z a0) (ws : List Jvm.Cond) (u1 : Addr) (w2 : Addr) (u2 : Addr) (u3 : Addr) (u4 : ClassId) (u5 : Int32) (h0 : Heap) (n0 : Nat) (Z0 : n0 ≤ h0.size) (P1 : Fld Z h0 u1 "com/example/afterlog/afterlog/ListValue" "size" "I" (.int 1)) (P2 : Fld Z h0 u1 "com/example/afterlog/afterlog/ListValue" "elements" "[[B" (.ref u3)) (P3 : Ary Z h0 u3 u4 (.array .byte) (8 : Int32)) (Sg2 : Sta Z Z.heap "com/example/afterlog/afterlog/ListValue$End" "HEAD" "Lcom/example/afterlog/afterlog/ListValue$End;" (.ref w2)) (P5 : Old Z n0 h0) (P6 : Exa Z h0 u1 "com/example/afterlog/afterlog/ListValue") (P7 : Fld Z h0 u1 "com/example/afterlog/afterlog/ListValue" "head" "I" (.int u5)) (P8 : ¬ u5 < (0 : Int32) ∧ u5 < (8 : Int32)) (P9 : n0 ≤ u1) (P10 : Exa Z h0 u3 "[[B") (P11 : u3 ≠ u1) (P12 : OvrA Z u4 .byte "[B") (P13 : Exa Z h0 u2 "[B") (P14 : n0 ≤ u3) :
    MF l Z (⟨"com/example/afterlog/afterlog/ListValue", "push", "(Lcom/example/afterlog/afterlog/ListValue$End;[B)V"⟩ : MethodName) (Jvm.Cond.code (⟨"com/example/afterlog/afterlog/ListValue", "push", "(Lcom/example/afterlog/afterlog/ListValue$End;[B)V"⟩ : MethodName) prog_24_method_6_code 3 none) ws ({ frames := 1, cells := 0, slots := 0, locals := 15 } : Room) #[(.ref u1), (.ref w2), (.ref u2)] h0 (Q5_29 Z u1 w2 u2 u3 u4 u5 h0 n0) := by
  refine MetFree.of_bodySF (plainFor_of_name pn_0) hisR ?_
  intro p e s m args below meth c s₁ Bd hml0 hP hK
  obtain ⟨rfl, hZ, hh⟩ := hP
  have hx := Bd.exec
  have hby := Bd.bytes
  have hml : c.maxLocals = 3 := hml0
  have hown : s.vm.findClass "com/example/afterlog/afterlog/ListValue" = some m.cls := findClass_of_methodNamed Bd.named
  have hnm := (name_of_methodNamed Bd.named Bd.method).1
  have X0 : Stand p l e ({ frames := 1, cells := 0, slots := 0, locals := 15 } : Room) s m #[(.ref u1), (.ref w2), (.ref u2)] below meth c s₁ [] 0 0 := Stand.of_body Bd
  have e0 : s₁.heap = h0 := by rw [← hh, Bd.state]; rfl
  have N0 := Fr.nil n0
  have pre0 : ∀ t, SF p e below s₁ (mkF m 0 #[rv u1, rv w2, rv u2] []) t → SF p e below s₁ (entryFrame m #[(.ref u1), (.ref w2), (.ref u2)] 3) t := fun t k => castTop (ef_3 m u1 w2 u2) k
  obtain ⟨T1, X1, e1, st1⟩ := getF X0 hx hZ hown (host := "") (Or.inl (tw hw 19 rfl)) Via.refl e0 P1 (g := (mkF m 1 #[rv u1, rv w2, rv u2] [(.ref u1)])) rfl rfl (hb hby d5_1)
  obtain ⟨T2, X2, e2, st2⟩ := getF X1 hx hZ hown (host := "") (Or.inl (tw hw 12 rfl)) Via.refl e1 P2 (g := (mkF m 5 #[rv u1, rv w2, rv u2] [(.ref u1), (.int 1)])) rfl rfl (hb hby d5_5)
  obtain ⟨cl3, Ar3, q3, S3, N3z, H3⟩ := id P3
  obtain ⟨T4, X4, e4, st4⟩ := getS2 X2 hx hZ hown (host := "") (Or.inl (tw hw 33 rfl)) Via.refl e2 (Sg2.ext P5.2) (g := (mkF m 17 #[rv u1, rv w2, rv u2] [(.ref w2)])) rfl (hb hby d5_17)
  obtain ⟨T5, X5, e5, st5⟩ := getF X4 hx hZ hown (host := "") (Or.inl (tw hw 12 rfl)) Via.refl e4 P2 (g := (mkF m 26 #[rv u1, rv w2, rv u2] [(.ref u1), (.ref u1), (.ref u1)])) rfl rfl (hb hby d5_26)
  obtain ⟨cl6, Ar6, q6, S6, N6z, H6⟩ := id P3
  obtain ⟨cq7, q7, q7'⟩ := P6.cell
  obtain ⟨_, _, ⟨T7, L7, k7x, n7⟩, -, X7, ⟨Lc7, hQ7, l7, y7, z7⟩, st7⟩ := X5.privateBack hx (y := (⟨"com/example/afterlog/afterlog/ListValue", "slot", "(I)I"⟩ : MethodName)) hown (mvT hZ (tw hw 35 rfl)) (mvT hZ (tw hw 36 rfl)) (own_selP hZ (tw hw 2 rfl) (tw hw 37 rfl) (tw hw 36 rfl) (by decide)) (Cond.privateMethod_at (mvP hZ (tw hw 37 rfl) (args := #[]))) (mvT hZ (tw hw 38 rfl)) (by decide) (backOf (W := 1) (own_slot l Z a0 hw [] u1 u3 u4 u5 (7 : Int32) h0 n0 Z0 P2 P7 P3 P8 ⟨by decide, by decide⟩) hZ (tw hw 38 rfl) (tw hw 3 rfl) (by decide) (by decide)) (g := (mkF m 32 #[rv u1, rv w2, rv u2] [(.int 7), (.ref u1), (.ref u1)])) rfl (by rw [hml]; rfl) (Steps.refl _) (a := u1) (by rw [e5]; exact q7) q7' (argsL := [(.int 7)]) (rest := [(.ref u1)]) (lenOf pd_2 rfl) rfl (by show 2 * 0 + _ ≤ _; exact Nat.le_of_eq rfl) (hb hby d5_32) (fun _ _ => ⟨rfl, e5, (by decide : 0 + 0 ≤ _), (by decide : 0 + 0 ≤ _)⟩)
  dsimp only [Pt.U, Pt.locs, Pt.cells, Pt.slots] at X7 l7 y7 z7 st7 hQ7
  subst l7 y7 z7
  obtain ⟨e1x, bx_i11, rfl, N7q, e7⟩ := hQ7
  have N7 := Fr.app N0 N7q
  obtain ⟨T8, h8, X8, e8, W8, st8⟩ := putF X7 hx hZ hown (host := "") (Or.inl (tw hw 39 rfl)) Via.refl e7 P7 P6 (Or.inl (tw hw 40 rfl)) (tw hw 2 rfl) (ty := .int) (by decide) rfl rfl (g := (mkF m 35 #[rv u1, rv w2, rv u2] [(.int e1x), (.ref u1)])) rfl rfl (hb hby d5_35)
  have K8 : Keep h0 h8 [u1, u3] := (Keep.refl h0 [u1, u3]).wr W8 (Or.inl (List.mem_of_getElem? (i := 0) rfl))
  have N8 := Fr.snoc X8 N7 P9
  have Fw8 : Fld Z h8 u1 "com/example/afterlog/afterlog/ListValue" "head" "I" (.int e1x) := P7.same W8
  have F1_9 : Fld Z h8 u1 "com/example/afterlog/afterlog/ListValue" "elements" "[[B" (.ref u3) := P2.other W8 (Or.inr (slot_ne (Or.inl (tw hw 13 rfl)) (Or.inl (tw hw 40 rfl)) (by decide) (t := (.array (.array .byte))) (t' := .int) (by decide) (by decide)))
  obtain ⟨T10, X10, e10, st10⟩ := getF X8 hx hZ hown (host := "") (Or.inl (tw hw 12 rfl)) Via.refl e8 F1_9 (g := (mkF m 39 #[rv u1, rv w2, rv u2] [(.ref u1)])) rfl rfl (hb hby d5_39)
  obtain ⟨T11, X11, e11, st11⟩ := getF X10 hx hZ hown (host := "") (Or.inl (tw hw 39 rfl)) Via.refl e10 Fw8 (g := (mkF m 43 #[rv u1, rv w2, rv u2] [(.ref u1), (.ref u3)])) rfl rfl (hb hby d5_43)
  have F1_12 : Exa Z h8 u3 "[[B" := P10.wr W8
  have F1_13 : Ary Z h8 u3 u4 (.array .byte) (8 : Int32) := P3.other W8 P11
  obtain ⟨cl14, Ar14, q14, S14, N14z, H14⟩ := id F1_13
  have hin14 : ¬ (e1x < 0 ∨ cl14.slots.size ≤ (e1x).toNatClampNeg) := inb_of S14 ⟨(bx_i11).1, (bx_i11).2⟩
  have F1_15 : Exa Z h8 u2 "[B" := P13.wr W8
  obtain ⟨T16, h16, X16, e16, W16, st16⟩ := stR X11 hx hZ e11 Ar14 (j := e1x) hin14 rfl (Sto.ofVA Ar14 q14 P12 (Ins.self F1_15)) (g := (mkF m 47 #[rv u1, rv w2, rv u2] [(.ref u2), (.int e1x), (.ref u3)])) rfl rfl (hb hby d5_47)
  have K16 : Keep h0 h16 [u1, u3] := K8.wr W16 (Or.inl (List.mem_of_getElem? (i := 1) rfl))
  have N16 := Fr.snoc X16 N8 P14
  have V16 : Ary Z h16 u3 u4 (.array .byte) (8 : Int32) := Ary.set Ar14 q14 S14 N14z H14 rfl W16
  have F1_17 : Fld Z h8 u1 "com/example/afterlog/afterlog/ListValue" "size" "I" (.int 1) := P1.other W8 (Or.inr (slot_ne (Or.inl (tw hw 20 rfl)) (Or.inl (tw hw 40 rfl)) (by decide) (t := .int) (t' := .int) (by decide) (by decide)))
  have F2_18 : Fld Z h16 u1 "com/example/afterlog/afterlog/ListValue" "size" "I" (.int 1) := F1_17.other W16 (Or.inl (Ne.symm P11))
  obtain ⟨T19, X19, e19, st19⟩ := getF X16 hx hZ hown (host := "") (Or.inl (tw hw 19 rfl)) Via.refl e16 F2_18 (g := (mkF m 67 #[rv u1, rv w2, rv u2] [(.ref u1), (.ref u1)])) rfl rfl (hb hby d5_67)
  have F1_20 : Exa Z h8 u1 "com/example/afterlog/afterlog/ListValue" := P6.wr W8
  have F2_21 : Exa Z h16 u1 "com/example/afterlog/afterlog/ListValue" := F1_20.wr W16
  have F2_22 : Fld Z h16 u1 "com/example/afterlog/afterlog/ListValue" "elements" "[[B" (.ref u3) := F1_9.other W16 (Or.inl (Ne.symm P11))
  have F2_23 : Fld Z h16 u1 "com/example/afterlog/afterlog/ListValue" "head" "I" (.int e1x) := Fw8.other W16 (Or.inl (Ne.symm P11))
  obtain ⟨T24, h24, X24, e24, W24, st24⟩ := putF X19 hx hZ hown (host := "") (Or.inl (tw hw 19 rfl)) Via.refl e19 F2_18 F2_21 (Or.inl (tw hw 20 rfl)) (tw hw 2 rfl) (ty := .int) (by decide) rfl rfl (g := (mkF m 72 #[rv u1, rv w2, rv u2] [(.int 2), (.ref u1)])) rfl rfl (hb hby d5_72)
  have K24 : Keep h0 h24 [u1, u3] := K16.wr W24 (Or.inl (List.mem_of_getElem? (i := 0) rfl))
  have N24 := Fr.snoc X24 N16 P9
  have Fw24 : Fld Z h24 u1 "com/example/afterlog/afterlog/ListValue" "size" "I" (.int 2) := F2_18.same W24
  have F3_25 : Fld Z h24 u1 "com/example/afterlog/afterlog/ListValue" "elements" "[[B" (.ref u3) := F2_22.other W24 (Or.inr (slot_ne (Or.inl (tw hw 13 rfl)) (Or.inl (tw hw 20 rfl)) (by decide) (t := (.array (.array .byte))) (t' := .int) (by decide) (by decide)))
  have F3_26 : Exa Z h24 u1 "com/example/afterlog/afterlog/ListValue" := F2_21.wr W24
  have F3_27 : Fld Z h24 u1 "com/example/afterlog/afterlog/ListValue" "head" "I" (.int e1x) := F2_23.other W24 (Or.inr (slot_ne (Or.inl (tw hw 40 rfl)) (Or.inl (tw hw 20 rfl)) (by decide) (t := .int) (t' := .int) (by decide) (by decide)))
  have F3_28 : Ary Z h24 u3 u4 (.array .byte) (8 : Int32) := V16.other W24 P11
  have F2_29 : Exa Z h16 u3 "[[B" := F1_12.wr W16
  have F3_30 : Exa Z h24 u3 "[[B" := F2_29.wr W24
  obtain ⟨fs, hr, hrun, hended, hW, hsame⟩ := X24.leave (v := none) (fun _ => rfl)
  refine ⟨_, _, pre0 _ ?_, hrun, hended, _, _, rfl, ?_, ⟨_, rfl⟩, hW, hsame.mono (by decide) (by decide)⟩
  · show SF p e below s₁ (mkF m 0 #[rv u1, rv w2, rv u2] []) _
    refine XS.aloadN X0.here hx rfl (hb hby d5_0) rfl rfl ?_
    show SF p e below s₁ (mkF m 1 #[rv u1, rv w2, rv u2] [(.ref u1)]) _
    refine st1 _ ?_
    show SF p e below T1 (mkF m 4 #[rv u1, rv w2, rv u2] [(.int 1)]) _
    refine XS.aloadN X1.here hx rfl (hb hby d5_4) rfl rfl ?_
    show SF p e below T1 (mkF m 5 #[rv u1, rv w2, rv u2] [(.ref u1), (.int 1)]) _
    refine st2 _ ?_
    show SF p e below T2 (mkF m 8 #[rv u1, rv w2, rv u2] [(.ref u3), (.int 1)]) _
    refine X2.arraylength hx (by rw [e2]; exact Ar3.1) (State.isArrayOf_alike hZ.alike Ar3.2.1) (g := (mkF m 8 #[rv u1, rv w2, rv u2] [(.ref u3), (.int 1)])) rfl rfl (hb hby d5_8) _ ?_
    rw [len_of S3 N3z]
    show SF p e below T2 (mkF m 9 #[rv u1, rv w2, rv u2] [(.int 8), (.int 1)]) _
    refine XS.icmpYes X2.here hx rfl (pc0 := 9) (pc' := 16) rfl (hb hby d5_9) rfl (feq (by decide : ¬ ((1 : Int32) = (8 : Int32)))).2 (by decide) (by decide) ?_
    show SF p e below T2 (mkF m 16 #[rv u1, rv w2, rv u2] []) _
    refine XS.aloadN X2.here hx rfl (hb hby d5_16) rfl rfl ?_
    show SF p e below T2 (mkF m 17 #[rv u1, rv w2, rv u2] [(.ref w2)]) _
    refine st4 _ ?_
    show SF p e below T4 (mkF m 20 #[rv u1, rv w2, rv u2] [(.ref w2), (.ref w2)]) _
    refine Jvm.RoadKit.acmp (g := (mkF m 20 #[rv u1, rv w2, rv u2] [(.ref w2), (.ref w2)])) X4 hx rfl rfl rfl (pc0 := 20) (pc' := 23) (same := true) rfl (hb hby d5_20) rfl (decide_eq_true rfl) (by decide) (by decide) ?_
    show SF p e below T4 (mkF m 23 #[rv u1, rv w2, rv u2] []) _
    refine XS.aloadN X4.here hx rfl (hb hby d5_23) rfl rfl ?_
    show SF p e below T4 (mkF m 24 #[rv u1, rv w2, rv u2] [(.ref u1)]) _
    refine XS.aloadN X4.here hx rfl (hb hby d5_24) rfl rfl ?_
    show SF p e below T4 (mkF m 25 #[rv u1, rv w2, rv u2] [(.ref u1), (.ref u1)]) _
    refine XS.aloadN X4.here hx rfl (hb hby d5_25) rfl rfl ?_
    show SF p e below T4 (mkF m 26 #[rv u1, rv w2, rv u2] [(.ref u1), (.ref u1), (.ref u1)]) _
    refine st5 _ ?_
    show SF p e below T5 (mkF m 29 #[rv u1, rv w2, rv u2] [(.ref u3), (.ref u1), (.ref u1)]) _
    refine X5.arraylength hx (by rw [e5]; exact Ar6.1) (State.isArrayOf_alike hZ.alike Ar6.2.1) (g := (mkF m 29 #[rv u1, rv w2, rv u2] [(.ref u3), (.ref u1), (.ref u1)])) rfl rfl (hb hby d5_29) _ ?_
    rw [len_of S6 N6z]
    show SF p e below T5 (mkF m 30 #[rv u1, rv w2, rv u2] [(.int 8), (.ref u1), (.ref u1)]) _
    refine XS.iconst X5.here hx rfl (hb hby d5_30) ?_
    show SF p e below T5 (mkF m 31 #[rv u1, rv w2, rv u2] [(.int 1), (.int 8), (.ref u1), (.ref u1)]) _
    refine XS.isub X5.here hx rfl (hb hby d5_31) rfl ?_
    show SF p e below T5 (mkF m 32 #[rv u1, rv w2, rv u2] [(.int ((8 : Int32) - (1 : Int32))), (.ref u1), (.ref u1)]) _
    rw [show ((8 : Int32) - (1 : Int32)) = (7 : Int32) from by decide]
    show SF p e below T5 (mkF m 32 #[rv u1, rv w2, rv u2] [(.int 7), (.ref u1), (.ref u1)]) _
    refine st7.trans ?_
    show SF p e below T7 (mkF m 35 #[rv u1, rv w2, rv u2] [(.int e1x), (.ref u1)]) _
    refine st8 _ ?_
    show SF p e below T8 (mkF m 38 #[rv u1, rv w2, rv u2] []) _
    refine XS.aloadN X8.here hx rfl (hb hby d5_38) rfl rfl ?_
    show SF p e below T8 (mkF m 39 #[rv u1, rv w2, rv u2] [(.ref u1)]) _
    refine st10 _ ?_
    show SF p e below T10 (mkF m 42 #[rv u1, rv w2, rv u2] [(.ref u3)]) _
    refine XS.aloadN X10.here hx rfl (hb hby d5_42) rfl rfl ?_
    show SF p e below T10 (mkF m 43 #[rv u1, rv w2, rv u2] [(.ref u1), (.ref u3)]) _
    refine st11 _ ?_
    show SF p e below T11 (mkF m 46 #[rv u1, rv w2, rv u2] [(.int e1x), (.ref u3)]) _
    refine XS.aloadN X11.here hx rfl (hb hby d5_46) rfl rfl ?_
    show SF p e below T11 (mkF m 47 #[rv u1, rv w2, rv u2] [(.ref u2), (.int e1x), (.ref u3)]) _
    refine st16 _ ?_
    show SF p e below T16 (mkF m 48 #[rv u1, rv w2, rv u2] []) _
    refine XS.goto X16.here hx rfl (pc0 := 48) (pc' := 65) rfl (hb hby d5_48) (by decide) (by decide) ?_
    show SF p e below T16 (mkF m 65 #[rv u1, rv w2, rv u2] []) _
    refine XS.aloadN X16.here hx rfl (hb hby d5_65) rfl rfl ?_
    show SF p e below T16 (mkF m 66 #[rv u1, rv w2, rv u2] [(.ref u1)]) _
    refine XS.dup X16.here hx rfl (hb hby d5_66) rfl rfl ?_
    show SF p e below T16 (mkF m 67 #[rv u1, rv w2, rv u2] [(.ref u1), (.ref u1)]) _
    refine st19 _ ?_
    show SF p e below T19 (mkF m 70 #[rv u1, rv w2, rv u2] [(.int 1), (.ref u1)]) _
    refine XS.iconst X19.here hx rfl (hb hby d5_70) ?_
    show SF p e below T19 (mkF m 71 #[rv u1, rv w2, rv u2] [(.int 1), (.int 1), (.ref u1)]) _
    refine XS.iadd X19.here hx rfl (hb hby d5_71) rfl ?_
    show SF p e below T19 (mkF m 72 #[rv u1, rv w2, rv u2] [(.int ((1 : Int32) + (1 : Int32))), (.ref u1)]) _
    rw [show ((1 : Int32) + (1 : Int32)) = (2 : Int32) from by decide]
    show SF p e below T19 (mkF m 72 #[rv u1, rv w2, rv u2] [(.int 2), (.ref u1)]) _
    refine st24 _ ?_
    show SF p e below T24 (mkF m 75 #[rv u1, rv w2, rv u2] []) _
    exact X24.returnOut hx Bd.returns (hb hby d5_75) hr
  · show Q5_29 Z u1 w2 u2 u3 u4 u5 h0 n0 _ T24.heap _
    rw [e24]
    exact ⟨e1x, bx_i11, rfl, N24, K24, Fw24, F3_25, F3_26, F3_27, F3_28, F3_30⟩
-- ListValueIsEmptyPinLaw.step 
def Q4_30 (Z : State) (u1 : Addr) (u2 : Int32) (u3 : Addr) (w2 : Addr) (u4 : Addr) (u5 : ClassId) (u6 : Int32) (h0 : Heap) (n0 : Nat) (v : Option Value) (h : Heap) (L : List Loc) : Prop := ∃ e1x : Int32, (¬ e1x < (0 : Int32) ∧ e1x < (8 : Int32)) ∧ v = some (.int 2) ∧ Fr n0 L ∧ Keep h0 h [u1, u4] ∧ Exa Z h u1 "com/example/afterlog/afterlog/ListValue" ∧ Fld Z h u1 "com/example/afterlog/afterlog/ListValue" "size" "I" (.int 2) ∧ Fld Z h u1 "com/example/afterlog/afterlog/ListValue" "elements" "[[B" (.ref u4) ∧ Fld Z h u1 "com/example/afterlog/afterlog/ListValue" "head" "I" (.int e1x) ∧ Exa Z h u4 "[[B" ∧ Ary Z h u4 u5 (.array .byte) (8 : Int32)
set_option maxRecDepth 65536 in
set_option maxHeartbeats 40000000 in
theorem rm4_30 (l : Launch) (Z : State) (a0 : Array Value) (hw : HW Z a0) (ws : List Jvm.Cond) (u1 : Addr) (u2 : Int32) (u3 : Addr) (w2 : Addr) (u4 : Addr) (u5 : ClassId) (u6 : Int32) (h0 : Heap) (n0 : Nat) (Z0 : n0 ≤ h0.size) (P1 : ¬ ((u2 &&& (2 : Int32)) = (0 : Int32))) (Sg2 : Sta Z Z.heap "com/example/afterlog/afterlog/ListValue$End" "HEAD" "Lcom/example/afterlog/afterlog/ListValue$End;" (.ref w2)) (P3 : Old Z n0 h0) (P4 : (u2 &&& (1 : Int32)) = (0 : Int32)) (P5 : Exa Z h0 u1 "com/example/afterlog/afterlog/ListValue") (P6 : Fld Z h0 u1 "com/example/afterlog/afterlog/ListValue" "size" "I" (.int 1)) (P7 : Fld Z h0 u1 "com/example/afterlog/afterlog/ListValue" "elements" "[[B" (.ref u4)) (P8 : Ary Z h0 u4 u5 (.array .byte) (8 : Int32)) (P9 : Fld Z h0 u1 "com/example/afterlog/afterlog/ListValue" "head" "I" (.int u6)) (P10 : ¬ u6 < (0 : Int32) ∧ u6 < (8 : Int32)) (P11 : n0 ≤ u1) (P12 : Exa Z h0 u4 "[[B") (P13 : u4 ≠ u1) (P14 : OvrA Z u5 .byte "[B") (P15 : Exa Z h0 u3 "[B") (P16 : n0 ≤ u4) :
    MF l Z (⟨"com/example/afterlog/afterlog/ListValueIsEmptyPinLaw", "step", "(Lcom/example/afterlog/afterlog/ListValue;II[B)I"⟩ : MethodName) (Jvm.Cond.code (⟨"com/example/afterlog/afterlog/ListValueIsEmptyPinLaw", "step", "(Lcom/example/afterlog/afterlog/ListValue;II[B)I"⟩ : MethodName) method_3_code 5 (some .int)) ws ({ frames := 2, cells := 0, slots := 0, locals := 29 } : Room) #[(.ref u1), (.int 1), (.int u2), (.ref u3)] h0 (Q4_30 Z u1 u2 u3 w2 u4 u5 u6 h0 n0) := by
  refine MetFree.of_bodySF (plainFor_of_name pn_1) hisR ?_
  intro p e s m args below meth c s₁ Bd hml0 hP hK
  obtain ⟨rfl, hZ, hh⟩ := hP
  have hx := Bd.exec
  have hby := Bd.bytes
  have hml : c.maxLocals = 5 := hml0
  have hown : s.vm.findClass "com/example/afterlog/afterlog/ListValueIsEmptyPinLaw" = some m.cls := findClass_of_methodNamed Bd.named
  have hnm := (name_of_methodNamed Bd.named Bd.method).1
  have X0 : Stand p l e ({ frames := 2, cells := 0, slots := 0, locals := 29 } : Room) s m #[(.ref u1), (.int 1), (.int u2), (.ref u3)] below meth c s₁ [] 0 0 := Stand.of_body Bd
  have e0 : s₁.heap = h0 := by rw [← hh, Bd.state]; rfl
  have N0 := Fr.nil n0
  have pre0 : ∀ t, SF p e below s₁ (mkF m 0 #[rv u1, iv 1, iv u2, rv u3, .unset] []) t → SF p e below s₁ (entryFrame m #[(.ref u1), (.int 1), (.int u2), (.ref u3)] 5) t := fun t k => castTop (ef_4 m u1 (1 : Int32) u2 u3) k
  obtain ⟨T1, X1, e1, st1⟩ := getS2 X0 hx hZ hown (host := "") (Or.inl (tw hw 42 rfl)) Via.refl e0 (Sg2.ext P3.2) (g := (mkF m 6 #[rv u1, iv 1, iv u2, rv u3, .unset] [])) rfl (hb hby d4_6)
  obtain ⟨cq2, kq2, q2a, q2b, q2c⟩ := isOf hZ e1 P5
  obtain ⟨_, _, ⟨T2, L2, k2x, n2⟩, -, X2, ⟨Lc2, hQ2, l2, y2, z2⟩, st2⟩ := X1.virtualBack hx (y := (⟨"com/example/afterlog/afterlog/ListValue", "push", "(Lcom/example/afterlog/afterlog/ListValue$End;[B)V"⟩ : MethodName)) (z := (⟨"com/example/afterlog/afterlog/ListValue", "push", "(Lcom/example/afterlog/afterlog/ListValue$End;[B)V"⟩ : MethodName)) hown (mvT hZ (tw hw 28 rfl)) (mvT hZ (tw hw 29 rfl)) (notFace_of_selects (args := #[]) (mvT hZ (tw hw 31 rfl))) (mvT hZ (tw hw 31 rfl)) (mvT hZ (tw hw 30 rfl)) (by decide) (backOf (W := 0) (rm5_29 l Z a0 hw [] u1 w2 u3 u4 u5 u6 h0 n0 Z0 P6 P7 P8 Sg2 P3 P5 P9 P10 P11 P12 P13 P14 P15 P16) hZ (tw hw 32 rfl) (tw hw 3 rfl) (by decide) (by decide)) q2a q2c (g := (mkF m 42 #[rv u1, iv 1, iv u2, rv u3, rv w2] [(.ref u3), (.ref w2), (.ref u1)])) rfl (by rw [hml]; rfl) (Steps.refl _) (argsL := [(.ref w2), (.ref u3)]) (rest := []) (lenOf pd_3 rfl) rfl (by show 2 * 0 + _ ≤ _; exact Nat.le_of_eq rfl) (hb hby d4_42) (fun _ _ => ⟨rfl, e1, (by decide : 0 + 0 ≤ _), (by decide : 0 + 0 ≤ _)⟩)
  dsimp only [Pt.U, Pt.locs, Pt.cells, Pt.slots] at X2 l2 y2 z2 st2 hQ2
  subst l2 y2 z2
  obtain ⟨e1x, bx_i12, rfl, N2q, K2c, Fq2_0, Fq2_1, Fq2_2, Fq2_3, Fq2_4, Fq2_5⟩ := hQ2
  have K2 : Keep h0 T2.heap [u1, u4] := (Keep.refl h0 [u1, u4]).trans K2c (allS (Or.inl (List.mem_of_getElem? (i := 0) rfl)) (allS (Or.inl (List.mem_of_getElem? (i := 1) rfl)) all0))
  have N2 := Fr.app N0 N2q
  obtain ⟨fs, hr, hrun, hended, hW, hsame⟩ := X2.leave (v := some (.int 2)) (fun h => by rw [Bd.returns] at h; cases h)
  refine ⟨_, _, pre0 _ ?_, hrun, hended, _, _, rfl, ?_, ⟨_, rfl⟩, hW, hsame.mono (by decide) (by decide)⟩
  · show SF p e below s₁ (mkF m 0 #[rv u1, iv 1, iv u2, rv u3, .unset] []) _
    refine XS.iloadN X0.here hx rfl (hb hby d4_0) rfl ?_
    show SF p e below s₁ (mkF m 1 #[rv u1, iv 1, iv u2, rv u3, .unset] [(.int u2)]) _
    refine XS.iconst X0.here hx rfl (hb hby d4_1) ?_
    show SF p e below s₁ (mkF m 2 #[rv u1, iv 1, iv u2, rv u3, .unset] [(.int 2), (.int u2)]) _
    refine XS.iand X0.here hx rfl (hb hby d4_2) rfl ?_
    show SF p e below s₁ (mkF m 3 #[rv u1, iv 1, iv u2, rv u3, .unset] [(.int (u2 &&& (2 : Int32)))]) _
    refine XS.ifNo X0.here hx rfl (hb hby d4_3) rfl ((if0 _ _).trans (feq P1).1) ?_
    show SF p e below s₁ (mkF m 6 #[rv u1, iv 1, iv u2, rv u3, .unset] []) _
    refine st1 _ ?_
    show SF p e below T1 (mkF m 9 #[rv u1, iv 1, iv u2, rv u3, .unset] [(.ref w2)]) _
    refine XS.goto X1.here hx rfl (pc0 := 9) (pc' := 15) rfl (hb hby d4_9) (by decide) (by decide) ?_
    show SF p e below T1 (mkF m 15 #[rv u1, iv 1, iv u2, rv u3, .unset] [(.ref w2)]) _
    refine XS.astore X1.here hx rfl (hb hby d4_15) rfl rfl (l' := #[rv u1, iv 1, iv u2, rv u3, rv w2]) rfl ?_
    show SF p e below T1 (mkF m 17 #[rv u1, iv 1, iv u2, rv u3, rv w2] []) _
    refine XS.iloadN X1.here hx rfl (hb hby d4_17) rfl ?_
    show SF p e below T1 (mkF m 18 #[rv u1, iv 1, iv u2, rv u3, rv w2] [(.int u2)]) _
    refine XS.iconst X1.here hx rfl (hb hby d4_18) ?_
    show SF p e below T1 (mkF m 19 #[rv u1, iv 1, iv u2, rv u3, rv w2] [(.int 1), (.int u2)]) _
    refine XS.iand X1.here hx rfl (hb hby d4_19) rfl ?_
    show SF p e below T1 (mkF m 20 #[rv u1, iv 1, iv u2, rv u3, rv w2] [(.int (u2 &&& (1 : Int32)))]) _
    refine XS.ifYes X1.here hx rfl (pc0 := 20) (pc' := 38) rfl (hb hby d4_20) rfl ((if0 _ _).trans (teq P4).1) (by decide) (by decide) ?_
    show SF p e below T1 (mkF m 38 #[rv u1, iv 1, iv u2, rv u3, rv w2] []) _
    refine XS.aloadN X1.here hx rfl (hb hby d4_38) rfl rfl ?_
    show SF p e below T1 (mkF m 39 #[rv u1, iv 1, iv u2, rv u3, rv w2] [(.ref u1)]) _
    refine XS.aload X1.here hx rfl (hb hby d4_39) rfl rfl ?_
    show SF p e below T1 (mkF m 41 #[rv u1, iv 1, iv u2, rv u3, rv w2] [(.ref w2), (.ref u1)]) _
    refine XS.aloadN X1.here hx rfl (hb hby d4_41) rfl rfl ?_
    show SF p e below T1 (mkF m 42 #[rv u1, iv 1, iv u2, rv u3, rv w2] [(.ref u3), (.ref w2), (.ref u1)]) _
    refine st2.trans ?_
    show SF p e below T2 (mkF m 45 #[rv u1, iv 1, iv u2, rv u3, rv w2] []) _
    refine XS.iloadN X2.here hx rfl (hb hby d4_45) rfl ?_
    show SF p e below T2 (mkF m 46 #[rv u1, iv 1, iv u2, rv u3, rv w2] [(.int 1)]) _
    refine XS.iconst X2.here hx rfl (hb hby d4_46) ?_
    show SF p e below T2 (mkF m 47 #[rv u1, iv 1, iv u2, rv u3, rv w2] [(.int 1), (.int 1)]) _
    refine XS.iadd X2.here hx rfl (hb hby d4_47) rfl ?_
    show SF p e below T2 (mkF m 48 #[rv u1, iv 1, iv u2, rv u3, rv w2] [(.int ((1 : Int32) + (1 : Int32)))]) _
    rw [show ((1 : Int32) + (1 : Int32)) = (2 : Int32) from by decide]
    show SF p e below T2 (mkF m 48 #[rv u1, iv 1, iv u2, rv u3, rv w2] [(.int 2)]) _
    exact retI X2 hx Bd.returns (hb hby d4_48) hr
  · show Q4_30 Z u1 u2 u3 w2 u4 u5 u6 h0 n0 _ T2.heap _
    exact ⟨e1x, bx_i12, rfl, N2, K2, Fq2_2, Fq2_0, Fq2_1, Fq2_3, Fq2_5, Fq2_4⟩
-- ListValue.pop 
def Q7_31 (Z : State) (u1 : Addr) (w2 : Addr) (u2 : Int32) (u3 : Addr) (u4 : ClassId) (h0 : Heap) (n0 : Nat) (v : Option Value) (h : Heap) (L : List Loc) : Prop := ∃ e1x : Value, ∃ e2x : Int32, (e1x.isRef = true) ∧ (¬ e2x < (0 : Int32) ∧ e2x < (8 : Int32)) ∧ v = some e1x ∧ Fr n0 L ∧ Keep h0 h [u3, u1] ∧ Ary Z h u3 u4 (.array .byte) (8 : Int32) ∧ Exa Z h u3 "[[B" ∧ Fld Z h u1 "com/example/afterlog/afterlog/ListValue" "head" "I" (.int e2x) ∧ Fld Z h u1 "com/example/afterlog/afterlog/ListValue" "elements" "[[B" (.ref u3) ∧ Exa Z h u1 "com/example/afterlog/afterlog/ListValue" ∧ Fld Z h u1 "com/example/afterlog/afterlog/ListValue" "size" "I" (.int 0)
set_option maxRecDepth 65536 in
set_option maxHeartbeats 40000000 in
theorem rm7_31 (l : Launch) (Z : State) (a0 : Array Value) (hw : HW Z a0) (ws : List Jvm.Cond) (u1 : Addr) (w2 : Addr) (u2 : Int32) (u3 : Addr) (u4 : ClassId) (h0 : Heap) (n0 : Nat) (Z0 : n0 ≤ h0.size) (Sg2 : Sta Z Z.heap "com/example/afterlog/afterlog/ListValue$End" "HEAD" "Lcom/example/afterlog/afterlog/ListValue$End;" (.ref w2)) (P2 : Old Z n0 h0) (P3 : Fld Z h0 u1 "com/example/afterlog/afterlog/ListValue" "head" "I" (.int u2)) (P4 : Fld Z h0 u1 "com/example/afterlog/afterlog/ListValue" "elements" "[[B" (.ref u3)) (P5 : Ary Z h0 u3 u4 (.array .byte) (8 : Int32)) (P6 : ¬ u2 < (0 : Int32) ∧ u2 < (8 : Int32)) (P7 : Exa Z h0 u3 "[[B") (P8 : n0 ≤ u3) (P9 : Exa Z h0 u1 "com/example/afterlog/afterlog/ListValue") (P10 : u1 ≠ u3) (P11 : Fld Z h0 u1 "com/example/afterlog/afterlog/ListValue" "size" "I" (.int 1)) (P12 : n0 ≤ u1) :
    MF l Z (⟨"com/example/afterlog/afterlog/ListValue", "pop", "(Lcom/example/afterlog/afterlog/ListValue$End;)[B"⟩ : MethodName) (Jvm.Cond.code (⟨"com/example/afterlog/afterlog/ListValue", "pop", "(Lcom/example/afterlog/afterlog/ListValue$End;)[B"⟩ : MethodName) prog_24_method_7_code 4 (some (.array .byte))) ws ({ frames := 1, cells := 0, slots := 0, locals := 15 } : Room) #[(.ref u1), (.ref w2)] h0 (Q7_31 Z u1 w2 u2 u3 u4 h0 n0) := by
  refine MetFree.of_bodySF (plainFor_of_name pn_0) hisR ?_
  intro p e s m args below meth c s₁ Bd hml0 hP hK
  obtain ⟨rfl, hZ, hh⟩ := hP
  have hx := Bd.exec
  have hby := Bd.bytes
  have hml : c.maxLocals = 4 := hml0
  have hown : s.vm.findClass "com/example/afterlog/afterlog/ListValue" = some m.cls := findClass_of_methodNamed Bd.named
  have hnm := (name_of_methodNamed Bd.named Bd.method).1
  have X0 : Stand p l e ({ frames := 1, cells := 0, slots := 0, locals := 15 } : Room) s m #[(.ref u1), (.ref w2)] below meth c s₁ [] 0 0 := Stand.of_body Bd
  have e0 : s₁.heap = h0 := by rw [← hh, Bd.state]; rfl
  have N0 := Fr.nil n0
  have pre0 : ∀ t, SF p e below s₁ (mkF m 0 #[rv u1, rv w2, .unset, .unset] []) t → SF p e below s₁ (entryFrame m #[(.ref u1), (.ref w2)] 4) t := fun t k => castTop (ef_5 m u1 w2) k
  obtain ⟨T1, X1, e1, st1⟩ := getS2 X0 hx hZ hown (host := "") (Or.inl (tw hw 33 rfl)) Via.refl e0 (Sg2.ext P2.2) (g := (mkF m 1 #[rv u1, rv w2, .unset, .unset] [(.ref w2)])) rfl (hb hby d7_1)
  obtain ⟨T2, X2, e2, st2⟩ := getF X1 hx hZ hown (host := "") (Or.inl (tw hw 39 rfl)) Via.refl e1 P3 (g := (mkF m 8 #[rv u1, rv w2, .unset, .unset] [(.ref u1)])) rfl rfl (hb hby d7_8)
  obtain ⟨T3, X3, e3, st3⟩ := getF X2 hx hZ hown (host := "") (Or.inl (tw hw 12 rfl)) Via.refl e2 P4 (g := (mkF m 26 #[rv u1, rv w2, iv u2, .unset] [(.ref u1)])) rfl rfl (hb hby d7_26)
  obtain ⟨cl4, Ar4, q4, S4, N4z, H4⟩ := id P5
  have hin4 : ¬ (u2 < 0 ∨ cl4.slots.size ≤ (u2).toNatClampNeg) := inb_of S4 ⟨(P6).1, (P6).2⟩
  obtain ⟨e1x, hat4, rv4⟩ := H4 (u2).toNatClampNeg (Nat.lt_of_not_le fun y => hin4 (Or.inr y))
  obtain ⟨T5, X5, e5, st5⟩ := getF X3 hx hZ hown (host := "") (Or.inl (tw hw 12 rfl)) Via.refl e3 P4 (g := (mkF m 33 #[rv u1, rv w2, iv u2, .val e1x] [(.ref u1)])) rfl rfl (hb hby d7_33)
  obtain ⟨cl6, Ar6, q6, S6, N6z, H6⟩ := id P5
  have hin6 : ¬ (u2 < 0 ∨ cl6.slots.size ≤ (u2).toNatClampNeg) := inb_of S6 ⟨(P6).1, (P6).2⟩
  obtain ⟨T7, h7, X7, e7, W7, st7⟩ := stR X5 hx hZ e5 Ar6 (j := u2) hin6 rfl (Or.inl rfl) (g := (mkF m 38 #[rv u1, rv w2, iv u2, .val e1x] [.null, (.int u2), (.ref u3)])) rfl rfl (hb hby d7_38)
  have K7 : Keep h0 h7 [u3, u1] := (Keep.refl h0 [u3, u1]).wr W7 (Or.inl (List.mem_of_getElem? (i := 0) rfl))
  have N7 := Fr.snoc X7 N0 P8
  have V7 : Ary Z h7 u3 u4 (.array .byte) (8 : Int32) := Ary.set Ar6 q6 S6 N6z H6 rfl W7
  have O7 : Old Z n0 h7 := P2.wr W7 P8
  obtain ⟨T8, X8, e8, st8⟩ := getS2 X7 hx hZ hown (host := "") (Or.inl (tw hw 33 rfl)) Via.refl e7 (Sg2.ext O7.2) (g := (mkF m 40 #[rv u1, rv w2, iv u2, .val e1x] [(.ref w2)])) rfl (hb hby d7_40)
  have F1_9 : Exa Z h7 u1 "com/example/afterlog/afterlog/ListValue" := P9.wr W7
  have F1_10 : Fld Z h7 u1 "com/example/afterlog/afterlog/ListValue" "elements" "[[B" (.ref u3) := P4.other W7 (Or.inl P10)
  have F1_11 : Fld Z h7 u1 "com/example/afterlog/afterlog/ListValue" "head" "I" (.int u2) := P3.other W7 (Or.inl P10)
  have Z7 : n0 ≤ h7.size := Nat.le_trans Z0 (Keep.of_wr W7).1
  obtain ⟨cq12, q12, q12'⟩ := F1_9.cell
  obtain ⟨_, _, ⟨T12, L12, k12x, n12⟩, -, X12, ⟨Lc12, hQ12, l12, y12, z12⟩, st12⟩ := X8.privateBack hx (y := (⟨"com/example/afterlog/afterlog/ListValue", "slot", "(I)I"⟩ : MethodName)) hown (mvT hZ (tw hw 35 rfl)) (mvT hZ (tw hw 36 rfl)) (own_selP hZ (tw hw 2 rfl) (tw hw 37 rfl) (tw hw 36 rfl) (by decide)) (Cond.privateMethod_at (mvP hZ (tw hw 37 rfl) (args := #[]))) (mvT hZ (tw hw 38 rfl)) (by decide) (backOf (W := 1) (own_slot l Z a0 hw [] u1 u3 u4 u2 (1 : Int32) h7 n0 Z7 F1_10 F1_11 V7 P6 ⟨by decide, by decide⟩) hZ (tw hw 38 rfl) (tw hw 3 rfl) (by decide) (by decide)) (g := (mkF m 49 #[rv u1, rv w2, iv u2, .val e1x] [(.int 1), (.ref u1), (.ref u1)])) rfl (by rw [hml]; rfl) (Steps.refl _) (a := u1) (by rw [e8]; exact q12) q12' (argsL := [(.int 1)]) (rest := [(.ref u1)]) (lenOf pd_2 rfl) rfl (by show 2 * 0 + _ ≤ _; exact Nat.le_of_eq rfl) (hb hby d7_49) (fun _ _ => ⟨rfl, e8, (by decide : 0 + 0 ≤ _), (by decide : 0 + 0 ≤ _)⟩)
  dsimp only [Pt.U, Pt.locs, Pt.cells, Pt.slots] at X12 l12 y12 z12 st12 hQ12
  subst l12 y12 z12
  obtain ⟨e2x, bx_i12, rfl, N12q, e12⟩ := hQ12
  have N12 := Fr.app N7 N12q
  have F1_13 : Fld Z h7 u1 "com/example/afterlog/afterlog/ListValue" "size" "I" (.int 1) := P11.other W7 (Or.inl P10)
  obtain ⟨T14, h14, X14, e14, W14, st14⟩ := putF X12 hx hZ hown (host := "") (Or.inl (tw hw 39 rfl)) Via.refl e12 F1_11 F1_9 (Or.inl (tw hw 40 rfl)) (tw hw 2 rfl) (ty := .int) (by decide) rfl rfl (g := (mkF m 52 #[rv u1, rv w2, iv u2, .val e1x] [(.int e2x), (.ref u1)])) rfl rfl (hb hby d7_52)
  have K14 : Keep h0 h14 [u3, u1] := K7.wr W14 (Or.inl (List.mem_of_getElem? (i := 1) rfl))
  have N14 := Fr.snoc X14 N12 P12
  have Fw14 : Fld Z h14 u1 "com/example/afterlog/afterlog/ListValue" "head" "I" (.int e2x) := F1_11.same W14
  have F2_15 : Fld Z h14 u1 "com/example/afterlog/afterlog/ListValue" "size" "I" (.int 1) := F1_13.other W14 (Or.inr (slot_ne (Or.inl (tw hw 20 rfl)) (Or.inl (tw hw 40 rfl)) (by decide) (t := .int) (t' := .int) (by decide) (by decide)))
  obtain ⟨T16, X16, e16, st16⟩ := getF X14 hx hZ hown (host := "") (Or.inl (tw hw 19 rfl)) Via.refl e14 F2_15 (g := (mkF m 57 #[rv u1, rv w2, iv u2, .val e1x] [(.ref u1), (.ref u1)])) rfl rfl (hb hby d7_57)
  have F2_17 : Exa Z h14 u1 "com/example/afterlog/afterlog/ListValue" := F1_9.wr W14
  have F2_18 : Fld Z h14 u1 "com/example/afterlog/afterlog/ListValue" "elements" "[[B" (.ref u3) := F1_10.other W14 (Or.inr (slot_ne (Or.inl (tw hw 13 rfl)) (Or.inl (tw hw 40 rfl)) (by decide) (t := (.array (.array .byte))) (t' := .int) (by decide) (by decide)))
  obtain ⟨T19, h19, X19, e19, W19, st19⟩ := putF X16 hx hZ hown (host := "") (Or.inl (tw hw 19 rfl)) Via.refl e16 F2_15 F2_17 (Or.inl (tw hw 20 rfl)) (tw hw 2 rfl) (ty := .int) (by decide) rfl rfl (g := (mkF m 62 #[rv u1, rv w2, iv u2, .val e1x] [(.int 0), (.ref u1)])) rfl rfl (hb hby d7_62)
  have K19 : Keep h0 h19 [u3, u1] := K14.wr W19 (Or.inl (List.mem_of_getElem? (i := 1) rfl))
  have N19 := Fr.snoc X19 N14 P12
  have Fw19 : Fld Z h19 u1 "com/example/afterlog/afterlog/ListValue" "size" "I" (.int 0) := F2_15.same W19
  have F2_20 : Ary Z h14 u3 u4 (.array .byte) (8 : Int32) := V7.other W14 (Ne.symm P10)
  have F3_21 : Ary Z h19 u3 u4 (.array .byte) (8 : Int32) := F2_20.other W19 (Ne.symm P10)
  have F1_22 : Exa Z h7 u3 "[[B" := P7.wr W7
  have F2_23 : Exa Z h14 u3 "[[B" := F1_22.wr W14
  have F3_24 : Exa Z h19 u3 "[[B" := F2_23.wr W19
  have F3_25 : Fld Z h19 u1 "com/example/afterlog/afterlog/ListValue" "head" "I" (.int e2x) := Fw14.other W19 (Or.inr (slot_ne (Or.inl (tw hw 40 rfl)) (Or.inl (tw hw 20 rfl)) (by decide) (t := .int) (t' := .int) (by decide) (by decide)))
  have F3_26 : Fld Z h19 u1 "com/example/afterlog/afterlog/ListValue" "elements" "[[B" (.ref u3) := F2_18.other W19 (Or.inr (slot_ne (Or.inl (tw hw 13 rfl)) (Or.inl (tw hw 20 rfl)) (by decide) (t := (.array (.array .byte))) (t' := .int) (by decide) (by decide)))
  have F3_27 : Exa Z h19 u1 "com/example/afterlog/afterlog/ListValue" := F2_17.wr W19
  obtain ⟨fs, hr, hrun, hended, hW, hsame⟩ := X19.leave (v := some e1x) (fun h => by rw [Bd.returns] at h; cases h)
  refine ⟨_, _, pre0 _ ?_, hrun, hended, _, _, rfl, ?_, ⟨_, rfl⟩, hW, hsame.mono (by decide) (by decide)⟩
  · show SF p e below s₁ (mkF m 0 #[rv u1, rv w2, .unset, .unset] []) _
    refine XS.aloadN X0.here hx rfl (hb hby d7_0) rfl rfl ?_
    show SF p e below s₁ (mkF m 1 #[rv u1, rv w2, .unset, .unset] [(.ref w2)]) _
    refine st1 _ ?_
    show SF p e below T1 (mkF m 4 #[rv u1, rv w2, .unset, .unset] [(.ref w2), (.ref w2)]) _
    refine Jvm.RoadKit.acmp (g := (mkF m 4 #[rv u1, rv w2, .unset, .unset] [(.ref w2), (.ref w2)])) X1 hx rfl rfl rfl (pc0 := 4) (pc' := 7) (same := true) rfl (hb hby d7_4) rfl (decide_eq_true rfl) (by decide) (by decide) ?_
    show SF p e below T1 (mkF m 7 #[rv u1, rv w2, .unset, .unset] []) _
    refine XS.aloadN X1.here hx rfl (hb hby d7_7) rfl rfl ?_
    show SF p e below T1 (mkF m 8 #[rv u1, rv w2, .unset, .unset] [(.ref u1)]) _
    refine st2 _ ?_
    show SF p e below T2 (mkF m 11 #[rv u1, rv w2, .unset, .unset] [(.int u2)]) _
    refine XS.goto X2.here hx rfl (pc0 := 11) (pc' := 24) rfl (hb hby d7_11) (by decide) (by decide) ?_
    show SF p e below T2 (mkF m 24 #[rv u1, rv w2, .unset, .unset] [(.int u2)]) _
    refine XS.istoreN X2.here hx rfl (hb hby d7_24) rfl (l' := #[rv u1, rv w2, iv u2, .unset]) rfl ?_
    show SF p e below T2 (mkF m 25 #[rv u1, rv w2, iv u2, .unset] []) _
    refine XS.aloadN X2.here hx rfl (hb hby d7_25) rfl rfl ?_
    show SF p e below T2 (mkF m 26 #[rv u1, rv w2, iv u2, .unset] [(.ref u1)]) _
    refine st3 _ ?_
    show SF p e below T3 (mkF m 29 #[rv u1, rv w2, iv u2, .unset] [(.ref u3)]) _
    refine XS.iloadN X3.here hx rfl (hb hby d7_29) rfl ?_
    show SF p e below T3 (mkF m 30 #[rv u1, rv w2, iv u2, .unset] [(.int u2), (.ref u3)]) _
    refine X3.aaload hx (j := u2) (v := e1x) (by rw [e3]; exact Ar4.1) (State.isArrayOf_alike hZ.alike Ar4.2.1) rfl Ar4.2.2 hin4 hat4 (g := (mkF m 30 #[rv u1, rv w2, iv u2, .unset] [(.int u2), (.ref u3)])) rfl rfl (hb hby d7_30) _ ?_
    show SF p e below T3 (mkF m 31 #[rv u1, rv w2, iv u2, .unset] [e1x]) _
    refine XS.astoreN X3.here hx rfl (hb hby d7_31) rfl rv4 (l' := #[rv u1, rv w2, iv u2, .val e1x]) (by rcases ref_cases rv4 with h | ⟨_, h⟩ <;> subst h <;> rfl) ?_
    show SF p e below T3 (mkF m 32 #[rv u1, rv w2, iv u2, .val e1x] []) _
    refine XS.aloadN X3.here hx rfl (hb hby d7_32) rfl rfl ?_
    show SF p e below T3 (mkF m 33 #[rv u1, rv w2, iv u2, .val e1x] [(.ref u1)]) _
    refine st5 _ ?_
    show SF p e below T5 (mkF m 36 #[rv u1, rv w2, iv u2, .val e1x] [(.ref u3)]) _
    refine XS.iloadN X5.here hx rfl (hb hby d7_36) rfl ?_
    show SF p e below T5 (mkF m 37 #[rv u1, rv w2, iv u2, .val e1x] [(.int u2), (.ref u3)]) _
    refine XS.aconstNull X5.here hx rfl (hb hby d7_37) ?_
    show SF p e below T5 (mkF m 38 #[rv u1, rv w2, iv u2, .val e1x] [.null, (.int u2), (.ref u3)]) _
    refine st7 _ ?_
    show SF p e below T7 (mkF m 39 #[rv u1, rv w2, iv u2, .val e1x] []) _
    refine XS.aloadN X7.here hx rfl (hb hby d7_39) rfl rfl ?_
    show SF p e below T7 (mkF m 40 #[rv u1, rv w2, iv u2, .val e1x] [(.ref w2)]) _
    refine st8 _ ?_
    show SF p e below T8 (mkF m 43 #[rv u1, rv w2, iv u2, .val e1x] [(.ref w2), (.ref w2)]) _
    refine Jvm.RoadKit.acmp (g := (mkF m 43 #[rv u1, rv w2, iv u2, .val e1x] [(.ref w2), (.ref w2)])) X8 hx rfl rfl rfl (pc0 := 43) (pc' := 46) (same := true) rfl (hb hby d7_43) rfl (decide_eq_true rfl) (by decide) (by decide) ?_
    show SF p e below T8 (mkF m 46 #[rv u1, rv w2, iv u2, .val e1x] []) _
    refine XS.aloadN X8.here hx rfl (hb hby d7_46) rfl rfl ?_
    show SF p e below T8 (mkF m 47 #[rv u1, rv w2, iv u2, .val e1x] [(.ref u1)]) _
    refine XS.aloadN X8.here hx rfl (hb hby d7_47) rfl rfl ?_
    show SF p e below T8 (mkF m 48 #[rv u1, rv w2, iv u2, .val e1x] [(.ref u1), (.ref u1)]) _
    refine XS.iconst X8.here hx rfl (hb hby d7_48) ?_
    show SF p e below T8 (mkF m 49 #[rv u1, rv w2, iv u2, .val e1x] [(.int 1), (.ref u1), (.ref u1)]) _
    refine st12.trans ?_
    show SF p e below T12 (mkF m 52 #[rv u1, rv w2, iv u2, .val e1x] [(.int e2x), (.ref u1)]) _
    refine st14 _ ?_
    show SF p e below T14 (mkF m 55 #[rv u1, rv w2, iv u2, .val e1x] []) _
    refine XS.aloadN X14.here hx rfl (hb hby d7_55) rfl rfl ?_
    show SF p e below T14 (mkF m 56 #[rv u1, rv w2, iv u2, .val e1x] [(.ref u1)]) _
    refine XS.dup X14.here hx rfl (hb hby d7_56) rfl rfl ?_
    show SF p e below T14 (mkF m 57 #[rv u1, rv w2, iv u2, .val e1x] [(.ref u1), (.ref u1)]) _
    refine st16 _ ?_
    show SF p e below T16 (mkF m 60 #[rv u1, rv w2, iv u2, .val e1x] [(.int 1), (.ref u1)]) _
    refine XS.iconst X16.here hx rfl (hb hby d7_60) ?_
    show SF p e below T16 (mkF m 61 #[rv u1, rv w2, iv u2, .val e1x] [(.int 1), (.int 1), (.ref u1)]) _
    refine XS.isub X16.here hx rfl (hb hby d7_61) rfl ?_
    show SF p e below T16 (mkF m 62 #[rv u1, rv w2, iv u2, .val e1x] [(.int ((1 : Int32) - (1 : Int32))), (.ref u1)]) _
    rw [show ((1 : Int32) - (1 : Int32)) = (0 : Int32) from by decide]
    show SF p e below T16 (mkF m 62 #[rv u1, rv w2, iv u2, .val e1x] [(.int 0), (.ref u1)]) _
    refine st19 _ ?_
    show SF p e below T19 (mkF m 65 #[rv u1, rv w2, iv u2, .val e1x] []) _
    refine XS.aloadN X19.here hx rfl (hb hby d7_65) rfl rv4 ?_
    show SF p e below T19 (mkF m 66 #[rv u1, rv w2, iv u2, .val e1x] [e1x]) _
    exact own_retR X19 hx Bd.returns rfl rv4 (hb hby d7_66) hr
  · show Q7_31 Z u1 w2 u2 u3 u4 h0 n0 _ T19.heap _
    rw [e19]
    exact ⟨e1x, e2x, rv4, bx_i12, rfl, N19, K19, F3_21, F3_24, F3_25, F3_26, F3_27, Fw19⟩
-- ListValueIsEmptyPinLaw.step 
def Q4_32 (Z : State) (u1 : Addr) (u2 : Int32) (u3 : Addr) (w2 : Addr) (u4 : Int32) (u5 : Addr) (u6 : ClassId) (h0 : Heap) (n0 : Nat) (v : Option Value) (h : Heap) (L : List Loc) : Prop := ∃ e1x : Int32, (¬ e1x < (0 : Int32) ∧ e1x < (8 : Int32)) ∧ v = some (.int 0) ∧ Fr n0 L ∧ Keep h0 h [u5, u1] ∧ Exa Z h u5 "[[B" ∧ Ary Z h u5 u6 (.array .byte) (8 : Int32) ∧ Exa Z h u1 "com/example/afterlog/afterlog/ListValue" ∧ Fld Z h u1 "com/example/afterlog/afterlog/ListValue" "head" "I" (.int e1x) ∧ Fld Z h u1 "com/example/afterlog/afterlog/ListValue" "elements" "[[B" (.ref u5) ∧ Fld Z h u1 "com/example/afterlog/afterlog/ListValue" "size" "I" (.int 0)
set_option maxRecDepth 65536 in
set_option maxHeartbeats 40000000 in
theorem rm4_32 (l : Launch) (Z : State) (a0 : Array Value) (hw : HW Z a0) (ws : List Jvm.Cond) (u1 : Addr) (u2 : Int32) (u3 : Addr) (w2 : Addr) (u4 : Int32) (u5 : Addr) (u6 : ClassId) (h0 : Heap) (n0 : Nat) (Z0 : n0 ≤ h0.size) (P1 : ¬ ((u2 &&& (2 : Int32)) = (0 : Int32))) (Sg2 : Sta Z Z.heap "com/example/afterlog/afterlog/ListValue$End" "HEAD" "Lcom/example/afterlog/afterlog/ListValue$End;" (.ref w2)) (P3 : Old Z n0 h0) (P4 : ¬ ((u2 &&& (1 : Int32)) = (0 : Int32))) (P5 : Exa Z h0 u1 "com/example/afterlog/afterlog/ListValue") (P6 : Fld Z h0 u1 "com/example/afterlog/afterlog/ListValue" "head" "I" (.int u4)) (P7 : Fld Z h0 u1 "com/example/afterlog/afterlog/ListValue" "elements" "[[B" (.ref u5)) (P8 : Ary Z h0 u5 u6 (.array .byte) (8 : Int32)) (P9 : ¬ u4 < (0 : Int32) ∧ u4 < (8 : Int32)) (P10 : Exa Z h0 u5 "[[B") (P11 : n0 ≤ u5) (P12 : u1 ≠ u5) (P13 : Fld Z h0 u1 "com/example/afterlog/afterlog/ListValue" "size" "I" (.int 1)) (P14 : n0 ≤ u1) :
    MF l Z (⟨"com/example/afterlog/afterlog/ListValueIsEmptyPinLaw", "step", "(Lcom/example/afterlog/afterlog/ListValue;II[B)I"⟩ : MethodName) (Jvm.Cond.code (⟨"com/example/afterlog/afterlog/ListValueIsEmptyPinLaw", "step", "(Lcom/example/afterlog/afterlog/ListValue;II[B)I"⟩ : MethodName) method_3_code 5 (some .int)) ws ({ frames := 2, cells := 0, slots := 0, locals := 30 } : Room) #[(.ref u1), (.int 1), (.int u2), (.ref u3)] h0 (Q4_32 Z u1 u2 u3 w2 u4 u5 u6 h0 n0) := by
  refine MetFree.of_bodySF (plainFor_of_name pn_1) hisR ?_
  intro p e s m args below meth c s₁ Bd hml0 hP hK
  obtain ⟨rfl, hZ, hh⟩ := hP
  have hx := Bd.exec
  have hby := Bd.bytes
  have hml : c.maxLocals = 5 := hml0
  have hown : s.vm.findClass "com/example/afterlog/afterlog/ListValueIsEmptyPinLaw" = some m.cls := findClass_of_methodNamed Bd.named
  have hnm := (name_of_methodNamed Bd.named Bd.method).1
  have X0 : Stand p l e ({ frames := 2, cells := 0, slots := 0, locals := 30 } : Room) s m #[(.ref u1), (.int 1), (.int u2), (.ref u3)] below meth c s₁ [] 0 0 := Stand.of_body Bd
  have e0 : s₁.heap = h0 := by rw [← hh, Bd.state]; rfl
  have N0 := Fr.nil n0
  have pre0 : ∀ t, SF p e below s₁ (mkF m 0 #[rv u1, iv 1, iv u2, rv u3, .unset] []) t → SF p e below s₁ (entryFrame m #[(.ref u1), (.int 1), (.int u2), (.ref u3)] 5) t := fun t k => castTop (ef_4 m u1 (1 : Int32) u2 u3) k
  obtain ⟨T1, X1, e1, st1⟩ := getS2 X0 hx hZ hown (host := "") (Or.inl (tw hw 42 rfl)) Via.refl e0 (Sg2.ext P3.2) (g := (mkF m 6 #[rv u1, iv 1, iv u2, rv u3, .unset] [])) rfl (hb hby d4_6)
  obtain ⟨cq2, kq2, q2a, q2b, q2c⟩ := isOf hZ e1 P5
  obtain ⟨_, _, ⟨T2, L2, k2x, n2⟩, -, X2, ⟨Lc2, hQ2, l2, y2, z2⟩, st2⟩ := X1.virtualBack hx (y := (⟨"com/example/afterlog/afterlog/ListValue", "pop", "(Lcom/example/afterlog/afterlog/ListValue$End;)[B"⟩ : MethodName)) (z := (⟨"com/example/afterlog/afterlog/ListValue", "pop", "(Lcom/example/afterlog/afterlog/ListValue$End;)[B"⟩ : MethodName)) hown (mvT hZ (tw hw 43 rfl)) (mvT hZ (tw hw 44 rfl)) (notFace_of_selects (args := #[]) (mvT hZ (tw hw 46 rfl))) (mvT hZ (tw hw 46 rfl)) (mvT hZ (tw hw 45 rfl)) (by decide) (backOf (W := 0) (rm7_31 l Z a0 hw [] u1 w2 u4 u5 u6 h0 n0 Z0 Sg2 P3 P6 P7 P8 P9 P10 P11 P5 P12 P13 P14) hZ (tw hw 47 rfl) (tw hw 3 rfl) (by decide) (by decide)) q2a q2c (g := (mkF m 30 #[rv u1, iv 1, iv u2, rv u3, rv w2] [(.ref w2), (.ref u1)])) rfl (by rw [hml]; rfl) (Steps.refl _) (argsL := [(.ref w2)]) (rest := []) (lenOf pd_5 rfl) rfl (by show 2 * 0 + _ ≤ _; exact Nat.le_of_eq rfl) (hb hby d4_30) (fun _ _ => ⟨rfl, e1, (by decide : 0 + 0 ≤ _), (by decide : 0 + 0 ≤ _)⟩)
  dsimp only [Pt.U, Pt.locs, Pt.cells, Pt.slots] at X2 l2 y2 z2 st2 hQ2
  subst l2 y2 z2
  obtain ⟨w8x, e1x, bx_vx13, bx_i14, rfl, N2q, K2c, Fq2_0, Fq2_1, Fq2_2, Fq2_3, Fq2_4, Fq2_5⟩ := hQ2
  have K2 : Keep h0 T2.heap [u5, u1] := (Keep.refl h0 [u5, u1]).trans K2c (allS (Or.inl (List.mem_of_getElem? (i := 0) rfl)) (allS (Or.inl (List.mem_of_getElem? (i := 1) rfl)) all0))
  have N2 := Fr.app N0 N2q
  obtain ⟨fs, hr, hrun, hended, hW, hsame⟩ := X2.leave (v := some (.int 0)) (fun h => by rw [Bd.returns] at h; cases h)
  refine ⟨_, _, pre0 _ ?_, hrun, hended, _, _, rfl, ?_, ⟨_, rfl⟩, hW, hsame.mono (by decide) (by decide)⟩
  · show SF p e below s₁ (mkF m 0 #[rv u1, iv 1, iv u2, rv u3, .unset] []) _
    refine XS.iloadN X0.here hx rfl (hb hby d4_0) rfl ?_
    show SF p e below s₁ (mkF m 1 #[rv u1, iv 1, iv u2, rv u3, .unset] [(.int u2)]) _
    refine XS.iconst X0.here hx rfl (hb hby d4_1) ?_
    show SF p e below s₁ (mkF m 2 #[rv u1, iv 1, iv u2, rv u3, .unset] [(.int 2), (.int u2)]) _
    refine XS.iand X0.here hx rfl (hb hby d4_2) rfl ?_
    show SF p e below s₁ (mkF m 3 #[rv u1, iv 1, iv u2, rv u3, .unset] [(.int (u2 &&& (2 : Int32)))]) _
    refine XS.ifNo X0.here hx rfl (hb hby d4_3) rfl ((if0 _ _).trans (feq P1).1) ?_
    show SF p e below s₁ (mkF m 6 #[rv u1, iv 1, iv u2, rv u3, .unset] []) _
    refine st1 _ ?_
    show SF p e below T1 (mkF m 9 #[rv u1, iv 1, iv u2, rv u3, .unset] [(.ref w2)]) _
    refine XS.goto X1.here hx rfl (pc0 := 9) (pc' := 15) rfl (hb hby d4_9) (by decide) (by decide) ?_
    show SF p e below T1 (mkF m 15 #[rv u1, iv 1, iv u2, rv u3, .unset] [(.ref w2)]) _
    refine XS.astore X1.here hx rfl (hb hby d4_15) rfl rfl (l' := #[rv u1, iv 1, iv u2, rv u3, rv w2]) rfl ?_
    show SF p e below T1 (mkF m 17 #[rv u1, iv 1, iv u2, rv u3, rv w2] []) _
    refine XS.iloadN X1.here hx rfl (hb hby d4_17) rfl ?_
    show SF p e below T1 (mkF m 18 #[rv u1, iv 1, iv u2, rv u3, rv w2] [(.int u2)]) _
    refine XS.iconst X1.here hx rfl (hb hby d4_18) ?_
    show SF p e below T1 (mkF m 19 #[rv u1, iv 1, iv u2, rv u3, rv w2] [(.int 1), (.int u2)]) _
    refine XS.iand X1.here hx rfl (hb hby d4_19) rfl ?_
    show SF p e below T1 (mkF m 20 #[rv u1, iv 1, iv u2, rv u3, rv w2] [(.int (u2 &&& (1 : Int32)))]) _
    refine XS.ifNo X1.here hx rfl (hb hby d4_20) rfl ((if0 _ _).trans (feq P4).1) ?_
    show SF p e below T1 (mkF m 23 #[rv u1, iv 1, iv u2, rv u3, rv w2] []) _
    refine XS.iloadN X1.here hx rfl (hb hby d4_23) rfl ?_
    show SF p e below T1 (mkF m 24 #[rv u1, iv 1, iv u2, rv u3, rv w2] [(.int 1)]) _
    refine XS.ifNo X1.here hx rfl (hb hby d4_24) rfl ((if0 _ _).trans (tlt (by decide : (0 : Int32) < (1 : Int32))).2.2.2) ?_
    show SF p e below T1 (mkF m 27 #[rv u1, iv 1, iv u2, rv u3, rv w2] []) _
    refine XS.aloadN X1.here hx rfl (hb hby d4_27) rfl rfl ?_
    show SF p e below T1 (mkF m 28 #[rv u1, iv 1, iv u2, rv u3, rv w2] [(.ref u1)]) _
    refine XS.aload X1.here hx rfl (hb hby d4_28) rfl rfl ?_
    show SF p e below T1 (mkF m 30 #[rv u1, iv 1, iv u2, rv u3, rv w2] [(.ref w2), (.ref u1)]) _
    refine st2.trans ?_
    show SF p e below T2 (mkF m 33 #[rv u1, iv 1, iv u2, rv u3, rv w2] [w8x]) _
    refine XS.pop X2.here hx rfl (hb hby d4_33) rfl (by rcases ref_cases bx_vx13 with h | ⟨_, h⟩ <;> subst h <;> rfl) ?_
    show SF p e below T2 (mkF m 34 #[rv u1, iv 1, iv u2, rv u3, rv w2] []) _
    refine XS.iloadN X2.here hx rfl (hb hby d4_34) rfl ?_
    show SF p e below T2 (mkF m 35 #[rv u1, iv 1, iv u2, rv u3, rv w2] [(.int 1)]) _
    refine XS.iconst X2.here hx rfl (hb hby d4_35) ?_
    show SF p e below T2 (mkF m 36 #[rv u1, iv 1, iv u2, rv u3, rv w2] [(.int 1), (.int 1)]) _
    refine XS.isub X2.here hx rfl (hb hby d4_36) rfl ?_
    show SF p e below T2 (mkF m 37 #[rv u1, iv 1, iv u2, rv u3, rv w2] [(.int ((1 : Int32) - (1 : Int32)))]) _
    rw [show ((1 : Int32) - (1 : Int32)) = (0 : Int32) from by decide]
    show SF p e below T2 (mkF m 37 #[rv u1, iv 1, iv u2, rv u3, rv w2] [(.int 0)]) _
    exact retI X2 hx Bd.returns (hb hby d4_37) hr
  · show Q4_32 Z u1 u2 u3 w2 u4 u5 u6 h0 n0 _ T2.heap _
    exact ⟨e1x, bx_i14, rfl, N2, K2, Fq2_1, Fq2_0, Fq2_4, Fq2_2, Fq2_3, Fq2_5⟩
set_option maxRecDepth 65536 in
set_option maxHeartbeats 400000000 in
theorem pc_4 {p : Program} {l : Launch} {e : Env} {s : State} {m : MethodId} {below : List Frame} {meth : Method} {c : Code} {T0 : State} {locs : List Loc} {Z : State} {a0 : Array Value} {h0 : Heap} {n0 : Nat} {p0s : Int32} {p1s : Int32} {p2s : Int32} {p3s : Int32} {w1 : Addr} {w2 : Addr} {o1 : Addr} {o2 : Addr} {kk1 : ClassId} {o3 : Addr} {kk2 : ClassId} {ii1 : Int32} (X0 : Stand p l e room_1 s m #[(.int p0s), (.int p1s), (.int p2s), (.int p3s)] below meth c T0 locs 3 12) (hx : p.tables.exec = Jvm.exec) (hZ : Z.Warmed39 s.vm) (hw : HW Z a0) (hby : c.code = code) (hml : c.maxLocals = 8) (hown : s.vm.findClass "com/example/afterlog/afterlog/ListValueIsEmptyPinLaw" = some m.cls) (hre : meth.sig.returnType = some .boolean) (hlk : meth.locks = false) (e0 : T0.heap = h0) (N0 : Fr n0 locs) (Z0 : n0 ≤ h0.size) (O0 : Old Z n0 h0) (Sg0 : Sta Z Z.heap "com/example/afterlog/afterlog/ListValue$End" "TAIL" "Lcom/example/afterlog/afterlog/ListValue$End;" (.ref w1)) (E_w1 : Exa Z Z.heap w1 "com/example/afterlog/afterlog/ListValue$End") (Sg2 : Sta Z Z.heap "com/example/afterlog/afterlog/ListValue$End" "HEAD" "Lcom/example/afterlog/afterlog/ListValue$End;" (.ref w2)) (E_w2 : Exa Z Z.heap w2 "com/example/afterlog/afterlog/ListValue$End") (F_w1_ordinal : Fld Z Z.heap w1 "java/lang/Enum" "ordinal" "I" (.int 1)) (F_w2_ordinal : Fld Z Z.heap w2 "java/lang/Enum" "ordinal" "I" (.int 0)) (P1 : Arv Z h0 o1 kk1 .byte (1 : Int32) [(.int (nar .byte ((p0s &&& (127 : Int32)).toInt8.toInt32)))] (.int (0 : Int32))) (P2 : Exa Z h0 o1 "[B") (P3 : Exa Z h0 o2 "com/example/afterlog/afterlog/ListValue") (P4 : Fld Z h0 o2 "com/example/afterlog/afterlog/ListValue" "elements" "[[B" (.ref o3)) (P5 : Fld Z h0 o2 "com/example/afterlog/afterlog/ListValue" "head" "I" (.int ii1)) (P6 : Fld Z h0 o2 "com/example/afterlog/afterlog/ListValue" "size" "I" (.int 1)) (P7 : Ary Z h0 o3 kk2 (.array .byte) (8 : Int32)) (P8 : OvrA Z kk2 .byte "[B") (P9 : Exa Z h0 o3 "[[B") (P10 : ¬ ii1 < (0 : Int32) ∧ ii1 < (8 : Int32)) (P11 : n0 ≤ o1) (P12 : o1 < h0.size) (P13 : n0 ≤ o2) (P14 : o2 < h0.size) (P15 : n0 ≤ o3) (P16 : o3 < h0.size) (P17 : o1 ≠ o2) (P18 : o1 ≠ o3) (P19 : o2 ≠ o3) :
    Fine p e below s n0 (T0.setTop (mkF m 159 #[iv p0s, iv p1s, iv p2s, iv p3s, rv o1, rv o2, iv 1, iv 1] [])) := by
  have pre0 : ∀ t, SF p e below T0 (mkF m 166 #[iv p0s, iv p1s, iv p2s, iv p3s, rv o1, rv o2, iv 1, iv 1] [(.ref o1), (.int p3s), (.int 1), (.ref o2)]) t → SF p e below T0 (mkF m 159 #[iv p0s, iv p1s, iv p2s, iv p3s, rv o1, rv o2, iv 1, iv 1] []) t := fun t k => by
    show SF p e below T0 (mkF m 159 #[iv p0s, iv p1s, iv p2s, iv p3s, rv o1, rv o2, iv 1, iv 1] []) _
    refine XS.aload X0.here hx rfl (hb hby at_159) rfl rfl ?_
    show SF p e below T0 (mkF m 161 #[iv p0s, iv p1s, iv p2s, iv p3s, rv o1, rv o2, iv 1, iv 1] [(.ref o2)]) _
    refine XS.iload X0.here hx rfl (hb hby at_161) rfl ?_
    show SF p e below T0 (mkF m 163 #[iv p0s, iv p1s, iv p2s, iv p3s, rv o1, rv o2, iv 1, iv 1] [(.int 1), (.ref o2)]) _
    refine XS.iloadN X0.here hx rfl (hb hby at_163) rfl ?_
    show SF p e below T0 (mkF m 164 #[iv p0s, iv p1s, iv p2s, iv p3s, rv o1, rv o2, iv 1, iv 1] [(.int p3s), (.int 1), (.ref o2)]) _
    refine XS.aload X0.here hx rfl (hb hby at_164) rfl rfl ?_
    exact k
  by_cases hc1 : (p3s &&& (2 : Int32)) = (0 : Int32)
  · by_cases hc2 : (p3s &&& (1 : Int32)) = (0 : Int32)
    · obtain ⟨_, _, ⟨T1, L1, k1x, n1⟩, -, X1, ⟨Lc1, hQ1, l1, y1, z1⟩, st1⟩ := Jvm.LawKit.callS X0 hx (y := (⟨"com/example/afterlog/afterlog/ListValueIsEmptyPinLaw", "step", "(Lcom/example/afterlog/afterlog/ListValue;II[B)I"⟩ : MethodName)) hown (mvT hZ (tw hw 21 rfl)) (mvT hZ (tw hw 22 rfl)) (mvT hZ (tw hw 23 rfl)) (mvT hZ (tw hw 24 rfl)) (by decide) (backOf (W := 0) (rm4_26 l Z a0 hw [] o2 p3s o1 w1 o3 kk2 w2 ii1 h0 n0 Z0 hc1 Sg0 O0 hc2 P3 P6 P4 P7 Sg2 F_w1_ordinal F_w2_ordinal P5 P10 P9 P8 P2 P15 P19 P13) hZ (tw hw 24 rfl) (tw hw 23 rfl) (by decide) (by decide)) (g := (mkF m 166 #[iv p0s, iv p1s, iv p2s, iv p3s, rv o1, rv o2, iv 1, iv 1] [(.ref o1), (.int p3s), (.int 1), (.ref o2)])) rfl (by rw [hml]; rfl) (argsL := [(.ref o2), (.int 1), (.int p3s), (.ref o1)]) (rest := []) (lenOf pd_4 rfl) rfl (by show 2 * 0 + _ ≤ _; exact Nat.le_of_eq rfl) (hb hby at_166) (fun _ _ => ⟨rfl, e0, (by decide : 3 + 0 ≤ _), (by decide : 12 + 0 ≤ _)⟩)
      dsimp only [Pt.U, Pt.locs, Pt.cells, Pt.slots] at X1 l1 y1 z1 st1 hQ1
      subst l1 y1 z1
      obtain ⟨rfl, N1q, K1c, Fq1_0, Fq1_1, Fq1_2, Fq1_3, Fq1_4, Fq1_5⟩ := hQ1
      have N1 := Fr.app N0 N1q
      have Z1 : n0 ≤ T1.heap.size := Nat.le_trans Z0 K1c.1
      obtain ⟨cq2, kq2, q2a, q2b, q2c⟩ := isOf hZ rfl Fq1_2
      obtain ⟨_, _, ⟨T2, L2, k2x, n2⟩, -, X2, ⟨Lc2, hQ2, l2, y2, z2⟩, st2⟩ := X1.virtualBack hx (y := (⟨"com/example/afterlog/afterlog/ListValue", "isEmpty", "()Z"⟩ : MethodName)) (z := (⟨"com/example/afterlog/afterlog/ListValue", "isEmpty", "()Z"⟩ : MethodName)) hown (mvT hZ (tw hw 14 rfl)) (mvT hZ (tw hw 15 rfl)) (notFace_of_selects (args := #[]) (mvT hZ (tw hw 17 rfl))) (mvT hZ (tw hw 17 rfl)) (mvT hZ (tw hw 16 rfl)) (by decide) (backOf (W := 0) (rm3_10 l Z a0 hw [] o2 T1.heap n0 Z1 Fq1_3) hZ (tw hw 18 rfl) (tw hw 3 rfl) (by decide) (by decide)) q2a q2c (g := (mkF m 178 #[iv p0s, iv p1s, iv p2s, iv p3s, rv o1, rv o2, iv 1, iv 2] [(.ref o2)])) rfl (by rw [hml]; rfl) (Steps.refl _) (argsL := []) (rest := []) (lenOf pd_1 rfl) rfl (by show 2 * 0 + _ ≤ _; exact Nat.le_of_eq rfl) (hb hby at_178) (fun _ _ => ⟨rfl, rfl, (by decide : 3 + 0 ≤ _), (by decide : 12 + 0 ≤ _)⟩)
      dsimp only [Pt.U, Pt.locs, Pt.cells, Pt.slots] at X2 l2 y2 z2 st2 hQ2
      subst l2 y2 z2
      obtain ⟨rfl, N2q, e2⟩ := hQ2
      have N2 := Fr.app N1 N2q
      obtain ⟨fs, hr, hrun, hended, hW, hsame⟩ := X2.leave (v := some (.int (1 : Int32))) (fun h => by rw [hre] at h; cases h)
      refine ⟨_, _, pre0 _ (?_), hrun, hended, _, _, rfl, ?_, ⟨_, rfl⟩, hW, hsame.mono (by decide) (by decide)⟩
      · show SF p e below T0 (mkF m 166 #[iv p0s, iv p1s, iv p2s, iv p3s, rv o1, rv o2, iv 1, iv 1] [(.ref o1), (.int p3s), (.int 1), (.ref o2)]) _
        refine st1 _ ?_
        show SF p e below T1 (mkF m 169 #[iv p0s, iv p1s, iv p2s, iv p3s, rv o1, rv o2, iv 1, iv 1] [(.int 2)]) _
        refine XS.istore X1.here hx rfl (hb hby at_169) rfl (l' := #[iv p0s, iv p1s, iv p2s, iv p3s, rv o1, rv o2, iv 1, iv 2]) rfl ?_
        show SF p e below T1 (mkF m 171 #[iv p0s, iv p1s, iv p2s, iv p3s, rv o1, rv o2, iv 1, iv 2] []) _
        refine XS.iload X1.here hx rfl (hb hby at_171) rfl ?_
        show SF p e below T1 (mkF m 173 #[iv p0s, iv p1s, iv p2s, iv p3s, rv o1, rv o2, iv 1, iv 2] [(.int 1)]) _
        refine XS.ifNo X1.here hx rfl (hb hby at_173) rfl ((if0 _ _).trans (feq (by decide : ¬ ((1 : Int32) = (0 : Int32)))).1) ?_
        show SF p e below T1 (mkF m 176 #[iv p0s, iv p1s, iv p2s, iv p3s, rv o1, rv o2, iv 1, iv 2] []) _
        refine XS.aload X1.here hx rfl (hb hby at_176) rfl rfl ?_
        show SF p e below T1 (mkF m 178 #[iv p0s, iv p1s, iv p2s, iv p3s, rv o1, rv o2, iv 1, iv 2] [(.ref o2)]) _
        refine st2.trans ?_
        show SF p e below T2 (mkF m 181 #[iv p0s, iv p1s, iv p2s, iv p3s, rv o1, rv o2, iv 1, iv 2] [(.int 0)]) _
        refine XS.iload X2.here hx rfl (hb hby at_181) rfl ?_
        show SF p e below T2 (mkF m 183 #[iv p0s, iv p1s, iv p2s, iv p3s, rv o1, rv o2, iv 1, iv 2] [(.int 2), (.int 0)]) _
        refine XS.ifYes X2.here hx rfl (pc0 := 183) (pc' := 190) rfl (hb hby at_183) rfl ((if0 _ _).trans (feq (by decide : ¬ ((2 : Int32) = (0 : Int32)))).2) (by decide) (by decide) ?_
        show SF p e below T2 (mkF m 190 #[iv p0s, iv p1s, iv p2s, iv p3s, rv o1, rv o2, iv 1, iv 2] [(.int 0)]) _
        refine XS.iconst X2.here hx rfl (hb hby at_190) ?_
        show SF p e below T2 (mkF m 191 #[iv p0s, iv p1s, iv p2s, iv p3s, rv o1, rv o2, iv 1, iv 2] [(.int 0), (.int 0)]) _
        refine XS.icmpNo X2.here hx rfl (hb hby at_191) rfl (teq (by decide : (0 : Int32) = (0 : Int32))).2 ?_
        show SF p e below T2 (mkF m 194 #[iv p0s, iv p1s, iv p2s, iv p3s, rv o1, rv o2, iv 1, iv 2] []) _
        refine XS.iconst X2.here hx rfl (hb hby at_194) ?_
        show SF p e below T2 (mkF m 195 #[iv p0s, iv p1s, iv p2s, iv p3s, rv o1, rv o2, iv 1, iv 2] [(.int 1)]) _
        refine XS.goto X2.here hx rfl (pc0 := 195) (pc' := 199) rfl (hb hby at_195) (by decide) (by decide) ?_
        show SF p e below T2 (mkF m 199 #[iv p0s, iv p1s, iv p2s, iv p3s, rv o1, rv o2, iv 1, iv 2] [(.int 1)]) _
        refine XS.istore X2.here hx rfl (hb hby at_199) rfl (l' := #[iv p0s, iv p1s, iv p2s, iv p3s, rv o1, rv o2, iv 1, iv 2]) rfl ?_
        show SF p e below T2 (mkF m 201 #[iv p0s, iv p1s, iv p2s, iv p3s, rv o1, rv o2, iv 1, iv 2] []) _
        refine XS.iload X2.here hx rfl (hb hby at_201) rfl ?_
        show SF p e below T2 (mkF m 203 #[iv p0s, iv p1s, iv p2s, iv p3s, rv o1, rv o2, iv 1, iv 2] [(.int 1)]) _
        exact retN X2 hx (t := .boolean) hre (by simp) (hb hby at_203) hr
      · exact ⟨rfl, N2⟩
    · obtain ⟨_, _, ⟨T1, L1, k1x, n1⟩, -, X1, ⟨Lc1, hQ1, l1, y1, z1⟩, st1⟩ := Jvm.LawKit.callS X0 hx (y := (⟨"com/example/afterlog/afterlog/ListValueIsEmptyPinLaw", "step", "(Lcom/example/afterlog/afterlog/ListValue;II[B)I"⟩ : MethodName)) hown (mvT hZ (tw hw 21 rfl)) (mvT hZ (tw hw 22 rfl)) (mvT hZ (tw hw 23 rfl)) (mvT hZ (tw hw 24 rfl)) (by decide) (backOf (W := 0) (rm4_28 l Z a0 hw [] o2 p3s o1 w1 w2 o3 ii1 kk2 h0 n0 Z0 hc1 Sg0 O0 hc2 P3 Sg2 F_w1_ordinal F_w2_ordinal P6 P4 P5 P7 P10 P9 P15 P19 P13) hZ (tw hw 24 rfl) (tw hw 23 rfl) (by decide) (by decide)) (g := (mkF m 166 #[iv p0s, iv p1s, iv p2s, iv p3s, rv o1, rv o2, iv 1, iv 1] [(.ref o1), (.int p3s), (.int 1), (.ref o2)])) rfl (by rw [hml]; rfl) (argsL := [(.ref o2), (.int 1), (.int p3s), (.ref o1)]) (rest := []) (lenOf pd_4 rfl) rfl (by show 2 * 0 + _ ≤ _; exact Nat.le_of_eq rfl) (hb hby at_166) (fun _ _ => ⟨rfl, e0, (by decide : 3 + 0 ≤ _), (by decide : 12 + 0 ≤ _)⟩)
      dsimp only [Pt.U, Pt.locs, Pt.cells, Pt.slots] at X1 l1 y1 z1 st1 hQ1
      subst l1 y1 z1
      obtain ⟨rfl, N1q, K1c, Fq1_0, Fq1_1, Fq1_2, Fq1_3, Fq1_4, Fq1_5⟩ := hQ1
      have N1 := Fr.app N0 N1q
      have Z1 : n0 ≤ T1.heap.size := Nat.le_trans Z0 K1c.1
      obtain ⟨cq2, kq2, q2a, q2b, q2c⟩ := isOf hZ rfl Fq1_2
      obtain ⟨_, _, ⟨T2, L2, k2x, n2⟩, -, X2, ⟨Lc2, hQ2, l2, y2, z2⟩, st2⟩ := X1.virtualBack hx (y := (⟨"com/example/afterlog/afterlog/ListValue", "isEmpty", "()Z"⟩ : MethodName)) (z := (⟨"com/example/afterlog/afterlog/ListValue", "isEmpty", "()Z"⟩ : MethodName)) hown (mvT hZ (tw hw 14 rfl)) (mvT hZ (tw hw 15 rfl)) (notFace_of_selects (args := #[]) (mvT hZ (tw hw 17 rfl))) (mvT hZ (tw hw 17 rfl)) (mvT hZ (tw hw 16 rfl)) (by decide) (backOf (W := 0) (rm3_2 l Z a0 hw [] o2 T1.heap n0 Z1 Fq1_3) hZ (tw hw 18 rfl) (tw hw 3 rfl) (by decide) (by decide)) q2a q2c (g := (mkF m 178 #[iv p0s, iv p1s, iv p2s, iv p3s, rv o1, rv o2, iv 1, iv 0] [(.ref o2)])) rfl (by rw [hml]; rfl) (Steps.refl _) (argsL := []) (rest := []) (lenOf pd_1 rfl) rfl (by show 2 * 0 + _ ≤ _; exact Nat.le_of_eq rfl) (hb hby at_178) (fun _ _ => ⟨rfl, rfl, (by decide : 3 + 0 ≤ _), (by decide : 12 + 0 ≤ _)⟩)
      dsimp only [Pt.U, Pt.locs, Pt.cells, Pt.slots] at X2 l2 y2 z2 st2 hQ2
      subst l2 y2 z2
      obtain ⟨rfl, N2q, e2⟩ := hQ2
      have N2 := Fr.app N1 N2q
      obtain ⟨fs, hr, hrun, hended, hW, hsame⟩ := X2.leave (v := some (.int (1 : Int32))) (fun h => by rw [hre] at h; cases h)
      refine ⟨_, _, pre0 _ (?_), hrun, hended, _, _, rfl, ?_, ⟨_, rfl⟩, hW, hsame.mono (by decide) (by decide)⟩
      · show SF p e below T0 (mkF m 166 #[iv p0s, iv p1s, iv p2s, iv p3s, rv o1, rv o2, iv 1, iv 1] [(.ref o1), (.int p3s), (.int 1), (.ref o2)]) _
        refine st1 _ ?_
        show SF p e below T1 (mkF m 169 #[iv p0s, iv p1s, iv p2s, iv p3s, rv o1, rv o2, iv 1, iv 1] [(.int 0)]) _
        refine XS.istore X1.here hx rfl (hb hby at_169) rfl (l' := #[iv p0s, iv p1s, iv p2s, iv p3s, rv o1, rv o2, iv 1, iv 0]) rfl ?_
        show SF p e below T1 (mkF m 171 #[iv p0s, iv p1s, iv p2s, iv p3s, rv o1, rv o2, iv 1, iv 0] []) _
        refine XS.iload X1.here hx rfl (hb hby at_171) rfl ?_
        show SF p e below T1 (mkF m 173 #[iv p0s, iv p1s, iv p2s, iv p3s, rv o1, rv o2, iv 1, iv 0] [(.int 1)]) _
        refine XS.ifNo X1.here hx rfl (hb hby at_173) rfl ((if0 _ _).trans (feq (by decide : ¬ ((1 : Int32) = (0 : Int32)))).1) ?_
        show SF p e below T1 (mkF m 176 #[iv p0s, iv p1s, iv p2s, iv p3s, rv o1, rv o2, iv 1, iv 0] []) _
        refine XS.aload X1.here hx rfl (hb hby at_176) rfl rfl ?_
        show SF p e below T1 (mkF m 178 #[iv p0s, iv p1s, iv p2s, iv p3s, rv o1, rv o2, iv 1, iv 0] [(.ref o2)]) _
        refine st2.trans ?_
        show SF p e below T2 (mkF m 181 #[iv p0s, iv p1s, iv p2s, iv p3s, rv o1, rv o2, iv 1, iv 0] [(.int 1)]) _
        refine XS.iload X2.here hx rfl (hb hby at_181) rfl ?_
        show SF p e below T2 (mkF m 183 #[iv p0s, iv p1s, iv p2s, iv p3s, rv o1, rv o2, iv 1, iv 0] [(.int 0), (.int 1)]) _
        refine XS.ifNo X2.here hx rfl (hb hby at_183) rfl ((if0 _ _).trans (teq (by decide : (0 : Int32) = (0 : Int32))).2) ?_
        show SF p e below T2 (mkF m 186 #[iv p0s, iv p1s, iv p2s, iv p3s, rv o1, rv o2, iv 1, iv 0] [(.int 1)]) _
        refine XS.iconst X2.here hx rfl (hb hby at_186) ?_
        show SF p e below T2 (mkF m 187 #[iv p0s, iv p1s, iv p2s, iv p3s, rv o1, rv o2, iv 1, iv 0] [(.int 1), (.int 1)]) _
        refine XS.goto X2.here hx rfl (pc0 := 187) (pc' := 191) rfl (hb hby at_187) (by decide) (by decide) ?_
        show SF p e below T2 (mkF m 191 #[iv p0s, iv p1s, iv p2s, iv p3s, rv o1, rv o2, iv 1, iv 0] [(.int 1), (.int 1)]) _
        refine XS.icmpNo X2.here hx rfl (hb hby at_191) rfl (teq (by decide : (1 : Int32) = (1 : Int32))).2 ?_
        show SF p e below T2 (mkF m 194 #[iv p0s, iv p1s, iv p2s, iv p3s, rv o1, rv o2, iv 1, iv 0] []) _
        refine XS.iconst X2.here hx rfl (hb hby at_194) ?_
        show SF p e below T2 (mkF m 195 #[iv p0s, iv p1s, iv p2s, iv p3s, rv o1, rv o2, iv 1, iv 0] [(.int 1)]) _
        refine XS.goto X2.here hx rfl (pc0 := 195) (pc' := 199) rfl (hb hby at_195) (by decide) (by decide) ?_
        show SF p e below T2 (mkF m 199 #[iv p0s, iv p1s, iv p2s, iv p3s, rv o1, rv o2, iv 1, iv 0] [(.int 1)]) _
        refine XS.istore X2.here hx rfl (hb hby at_199) rfl (l' := #[iv p0s, iv p1s, iv p2s, iv p3s, rv o1, rv o2, iv 1, iv 0]) rfl ?_
        show SF p e below T2 (mkF m 201 #[iv p0s, iv p1s, iv p2s, iv p3s, rv o1, rv o2, iv 1, iv 0] []) _
        refine XS.iload X2.here hx rfl (hb hby at_201) rfl ?_
        show SF p e below T2 (mkF m 203 #[iv p0s, iv p1s, iv p2s, iv p3s, rv o1, rv o2, iv 1, iv 0] [(.int 1)]) _
        exact retN X2 hx (t := .boolean) hre (by simp) (hb hby at_203) hr
      · exact ⟨rfl, N2⟩
  · by_cases hc2 : (p3s &&& (1 : Int32)) = (0 : Int32)
    · obtain ⟨_, _, ⟨T1, L1, k1x, n1⟩, -, X1, ⟨Lc1, hQ1, l1, y1, z1⟩, st1⟩ := Jvm.LawKit.callS X0 hx (y := (⟨"com/example/afterlog/afterlog/ListValueIsEmptyPinLaw", "step", "(Lcom/example/afterlog/afterlog/ListValue;II[B)I"⟩ : MethodName)) hown (mvT hZ (tw hw 21 rfl)) (mvT hZ (tw hw 22 rfl)) (mvT hZ (tw hw 23 rfl)) (mvT hZ (tw hw 24 rfl)) (by decide) (backOf (W := 0) (rm4_30 l Z a0 hw [] o2 p3s o1 w2 o3 kk2 ii1 h0 n0 Z0 hc1 Sg2 O0 hc2 P3 P6 P4 P7 P5 P10 P13 P9 (Ne.symm P19) P8 P2 P15) hZ (tw hw 24 rfl) (tw hw 23 rfl) (by decide) (by decide)) (g := (mkF m 166 #[iv p0s, iv p1s, iv p2s, iv p3s, rv o1, rv o2, iv 1, iv 1] [(.ref o1), (.int p3s), (.int 1), (.ref o2)])) rfl (by rw [hml]; rfl) (argsL := [(.ref o2), (.int 1), (.int p3s), (.ref o1)]) (rest := []) (lenOf pd_4 rfl) rfl (by show 2 * 0 + _ ≤ _; exact Nat.le_of_eq rfl) (hb hby at_166) (fun _ _ => ⟨rfl, e0, (by decide : 3 + 0 ≤ _), (by decide : 12 + 0 ≤ _)⟩)
      dsimp only [Pt.U, Pt.locs, Pt.cells, Pt.slots] at X1 l1 y1 z1 st1 hQ1
      subst l1 y1 z1
      obtain ⟨i13, bx_i13, rfl, N1q, K1c, Fq1_0, Fq1_1, Fq1_2, Fq1_3, Fq1_4, Fq1_5⟩ := hQ1
      have N1 := Fr.app N0 N1q
      have Z1 : n0 ≤ T1.heap.size := Nat.le_trans Z0 K1c.1
      obtain ⟨cq2, kq2, q2a, q2b, q2c⟩ := isOf hZ rfl Fq1_0
      obtain ⟨_, _, ⟨T2, L2, k2x, n2⟩, -, X2, ⟨Lc2, hQ2, l2, y2, z2⟩, st2⟩ := X1.virtualBack hx (y := (⟨"com/example/afterlog/afterlog/ListValue", "isEmpty", "()Z"⟩ : MethodName)) (z := (⟨"com/example/afterlog/afterlog/ListValue", "isEmpty", "()Z"⟩ : MethodName)) hown (mvT hZ (tw hw 14 rfl)) (mvT hZ (tw hw 15 rfl)) (notFace_of_selects (args := #[]) (mvT hZ (tw hw 17 rfl))) (mvT hZ (tw hw 17 rfl)) (mvT hZ (tw hw 16 rfl)) (by decide) (backOf (W := 0) (rm3_10 l Z a0 hw [] o2 T1.heap n0 Z1 Fq1_1) hZ (tw hw 18 rfl) (tw hw 3 rfl) (by decide) (by decide)) q2a q2c (g := (mkF m 178 #[iv p0s, iv p1s, iv p2s, iv p3s, rv o1, rv o2, iv 1, iv 2] [(.ref o2)])) rfl (by rw [hml]; rfl) (Steps.refl _) (argsL := []) (rest := []) (lenOf pd_1 rfl) rfl (by show 2 * 0 + _ ≤ _; exact Nat.le_of_eq rfl) (hb hby at_178) (fun _ _ => ⟨rfl, rfl, (by decide : 3 + 0 ≤ _), (by decide : 12 + 0 ≤ _)⟩)
      dsimp only [Pt.U, Pt.locs, Pt.cells, Pt.slots] at X2 l2 y2 z2 st2 hQ2
      subst l2 y2 z2
      obtain ⟨rfl, N2q, e2⟩ := hQ2
      have N2 := Fr.app N1 N2q
      obtain ⟨fs, hr, hrun, hended, hW, hsame⟩ := X2.leave (v := some (.int (1 : Int32))) (fun h => by rw [hre] at h; cases h)
      refine ⟨_, _, pre0 _ (?_), hrun, hended, _, _, rfl, ?_, ⟨_, rfl⟩, hW, hsame.mono (by decide) (by decide)⟩
      · show SF p e below T0 (mkF m 166 #[iv p0s, iv p1s, iv p2s, iv p3s, rv o1, rv o2, iv 1, iv 1] [(.ref o1), (.int p3s), (.int 1), (.ref o2)]) _
        refine st1 _ ?_
        show SF p e below T1 (mkF m 169 #[iv p0s, iv p1s, iv p2s, iv p3s, rv o1, rv o2, iv 1, iv 1] [(.int 2)]) _
        refine XS.istore X1.here hx rfl (hb hby at_169) rfl (l' := #[iv p0s, iv p1s, iv p2s, iv p3s, rv o1, rv o2, iv 1, iv 2]) rfl ?_
        show SF p e below T1 (mkF m 171 #[iv p0s, iv p1s, iv p2s, iv p3s, rv o1, rv o2, iv 1, iv 2] []) _
        refine XS.iload X1.here hx rfl (hb hby at_171) rfl ?_
        show SF p e below T1 (mkF m 173 #[iv p0s, iv p1s, iv p2s, iv p3s, rv o1, rv o2, iv 1, iv 2] [(.int 1)]) _
        refine XS.ifNo X1.here hx rfl (hb hby at_173) rfl ((if0 _ _).trans (feq (by decide : ¬ ((1 : Int32) = (0 : Int32)))).1) ?_
        show SF p e below T1 (mkF m 176 #[iv p0s, iv p1s, iv p2s, iv p3s, rv o1, rv o2, iv 1, iv 2] []) _
        refine XS.aload X1.here hx rfl (hb hby at_176) rfl rfl ?_
        show SF p e below T1 (mkF m 178 #[iv p0s, iv p1s, iv p2s, iv p3s, rv o1, rv o2, iv 1, iv 2] [(.ref o2)]) _
        refine st2.trans ?_
        show SF p e below T2 (mkF m 181 #[iv p0s, iv p1s, iv p2s, iv p3s, rv o1, rv o2, iv 1, iv 2] [(.int 0)]) _
        refine XS.iload X2.here hx rfl (hb hby at_181) rfl ?_
        show SF p e below T2 (mkF m 183 #[iv p0s, iv p1s, iv p2s, iv p3s, rv o1, rv o2, iv 1, iv 2] [(.int 2), (.int 0)]) _
        refine XS.ifYes X2.here hx rfl (pc0 := 183) (pc' := 190) rfl (hb hby at_183) rfl ((if0 _ _).trans (feq (by decide : ¬ ((2 : Int32) = (0 : Int32)))).2) (by decide) (by decide) ?_
        show SF p e below T2 (mkF m 190 #[iv p0s, iv p1s, iv p2s, iv p3s, rv o1, rv o2, iv 1, iv 2] [(.int 0)]) _
        refine XS.iconst X2.here hx rfl (hb hby at_190) ?_
        show SF p e below T2 (mkF m 191 #[iv p0s, iv p1s, iv p2s, iv p3s, rv o1, rv o2, iv 1, iv 2] [(.int 0), (.int 0)]) _
        refine XS.icmpNo X2.here hx rfl (hb hby at_191) rfl (teq (by decide : (0 : Int32) = (0 : Int32))).2 ?_
        show SF p e below T2 (mkF m 194 #[iv p0s, iv p1s, iv p2s, iv p3s, rv o1, rv o2, iv 1, iv 2] []) _
        refine XS.iconst X2.here hx rfl (hb hby at_194) ?_
        show SF p e below T2 (mkF m 195 #[iv p0s, iv p1s, iv p2s, iv p3s, rv o1, rv o2, iv 1, iv 2] [(.int 1)]) _
        refine XS.goto X2.here hx rfl (pc0 := 195) (pc' := 199) rfl (hb hby at_195) (by decide) (by decide) ?_
        show SF p e below T2 (mkF m 199 #[iv p0s, iv p1s, iv p2s, iv p3s, rv o1, rv o2, iv 1, iv 2] [(.int 1)]) _
        refine XS.istore X2.here hx rfl (hb hby at_199) rfl (l' := #[iv p0s, iv p1s, iv p2s, iv p3s, rv o1, rv o2, iv 1, iv 2]) rfl ?_
        show SF p e below T2 (mkF m 201 #[iv p0s, iv p1s, iv p2s, iv p3s, rv o1, rv o2, iv 1, iv 2] []) _
        refine XS.iload X2.here hx rfl (hb hby at_201) rfl ?_
        show SF p e below T2 (mkF m 203 #[iv p0s, iv p1s, iv p2s, iv p3s, rv o1, rv o2, iv 1, iv 2] [(.int 1)]) _
        exact retN X2 hx (t := .boolean) hre (by simp) (hb hby at_203) hr
      · exact ⟨rfl, N2⟩
    · obtain ⟨_, _, ⟨T1, L1, k1x, n1⟩, -, X1, ⟨Lc1, hQ1, l1, y1, z1⟩, st1⟩ := Jvm.LawKit.callS X0 hx (y := (⟨"com/example/afterlog/afterlog/ListValueIsEmptyPinLaw", "step", "(Lcom/example/afterlog/afterlog/ListValue;II[B)I"⟩ : MethodName)) hown (mvT hZ (tw hw 21 rfl)) (mvT hZ (tw hw 22 rfl)) (mvT hZ (tw hw 23 rfl)) (mvT hZ (tw hw 24 rfl)) (by decide) (backOf (W := 0) (rm4_32 l Z a0 hw [] o2 p3s o1 w2 ii1 o3 kk2 h0 n0 Z0 hc1 Sg2 O0 hc2 P3 P5 P4 P7 P10 P9 P15 P19 P6 P13) hZ (tw hw 24 rfl) (tw hw 23 rfl) (by decide) (by decide)) (g := (mkF m 166 #[iv p0s, iv p1s, iv p2s, iv p3s, rv o1, rv o2, iv 1, iv 1] [(.ref o1), (.int p3s), (.int 1), (.ref o2)])) rfl (by rw [hml]; rfl) (argsL := [(.ref o2), (.int 1), (.int p3s), (.ref o1)]) (rest := []) (lenOf pd_4 rfl) rfl (by show 2 * 0 + _ ≤ _; exact Nat.le_of_eq rfl) (hb hby at_166) (fun _ _ => ⟨rfl, e0, (by decide : 3 + 0 ≤ _), (by decide : 12 + 0 ≤ _)⟩)
      dsimp only [Pt.U, Pt.locs, Pt.cells, Pt.slots] at X1 l1 y1 z1 st1 hQ1
      subst l1 y1 z1
      obtain ⟨i15, bx_i15, rfl, N1q, K1c, Fq1_0, Fq1_1, Fq1_2, Fq1_3, Fq1_4, Fq1_5⟩ := hQ1
      have N1 := Fr.app N0 N1q
      have Z1 : n0 ≤ T1.heap.size := Nat.le_trans Z0 K1c.1
      obtain ⟨cq2, kq2, q2a, q2b, q2c⟩ := isOf hZ rfl Fq1_2
      obtain ⟨_, _, ⟨T2, L2, k2x, n2⟩, -, X2, ⟨Lc2, hQ2, l2, y2, z2⟩, st2⟩ := X1.virtualBack hx (y := (⟨"com/example/afterlog/afterlog/ListValue", "isEmpty", "()Z"⟩ : MethodName)) (z := (⟨"com/example/afterlog/afterlog/ListValue", "isEmpty", "()Z"⟩ : MethodName)) hown (mvT hZ (tw hw 14 rfl)) (mvT hZ (tw hw 15 rfl)) (notFace_of_selects (args := #[]) (mvT hZ (tw hw 17 rfl))) (mvT hZ (tw hw 17 rfl)) (mvT hZ (tw hw 16 rfl)) (by decide) (backOf (W := 0) (rm3_2 l Z a0 hw [] o2 T1.heap n0 Z1 Fq1_5) hZ (tw hw 18 rfl) (tw hw 3 rfl) (by decide) (by decide)) q2a q2c (g := (mkF m 178 #[iv p0s, iv p1s, iv p2s, iv p3s, rv o1, rv o2, iv 1, iv 0] [(.ref o2)])) rfl (by rw [hml]; rfl) (Steps.refl _) (argsL := []) (rest := []) (lenOf pd_1 rfl) rfl (by show 2 * 0 + _ ≤ _; exact Nat.le_of_eq rfl) (hb hby at_178) (fun _ _ => ⟨rfl, rfl, (by decide : 3 + 0 ≤ _), (by decide : 12 + 0 ≤ _)⟩)
      dsimp only [Pt.U, Pt.locs, Pt.cells, Pt.slots] at X2 l2 y2 z2 st2 hQ2
      subst l2 y2 z2
      obtain ⟨rfl, N2q, e2⟩ := hQ2
      have N2 := Fr.app N1 N2q
      obtain ⟨fs, hr, hrun, hended, hW, hsame⟩ := X2.leave (v := some (.int (1 : Int32))) (fun h => by rw [hre] at h; cases h)
      refine ⟨_, _, pre0 _ (?_), hrun, hended, _, _, rfl, ?_, ⟨_, rfl⟩, hW, hsame.mono (by decide) (by decide)⟩
      · show SF p e below T0 (mkF m 166 #[iv p0s, iv p1s, iv p2s, iv p3s, rv o1, rv o2, iv 1, iv 1] [(.ref o1), (.int p3s), (.int 1), (.ref o2)]) _
        refine st1 _ ?_
        show SF p e below T1 (mkF m 169 #[iv p0s, iv p1s, iv p2s, iv p3s, rv o1, rv o2, iv 1, iv 1] [(.int 0)]) _
        refine XS.istore X1.here hx rfl (hb hby at_169) rfl (l' := #[iv p0s, iv p1s, iv p2s, iv p3s, rv o1, rv o2, iv 1, iv 0]) rfl ?_
        show SF p e below T1 (mkF m 171 #[iv p0s, iv p1s, iv p2s, iv p3s, rv o1, rv o2, iv 1, iv 0] []) _
        refine XS.iload X1.here hx rfl (hb hby at_171) rfl ?_
        show SF p e below T1 (mkF m 173 #[iv p0s, iv p1s, iv p2s, iv p3s, rv o1, rv o2, iv 1, iv 0] [(.int 1)]) _
        refine XS.ifNo X1.here hx rfl (hb hby at_173) rfl ((if0 _ _).trans (feq (by decide : ¬ ((1 : Int32) = (0 : Int32)))).1) ?_
        show SF p e below T1 (mkF m 176 #[iv p0s, iv p1s, iv p2s, iv p3s, rv o1, rv o2, iv 1, iv 0] []) _
        refine XS.aload X1.here hx rfl (hb hby at_176) rfl rfl ?_
        show SF p e below T1 (mkF m 178 #[iv p0s, iv p1s, iv p2s, iv p3s, rv o1, rv o2, iv 1, iv 0] [(.ref o2)]) _
        refine st2.trans ?_
        show SF p e below T2 (mkF m 181 #[iv p0s, iv p1s, iv p2s, iv p3s, rv o1, rv o2, iv 1, iv 0] [(.int 1)]) _
        refine XS.iload X2.here hx rfl (hb hby at_181) rfl ?_
        show SF p e below T2 (mkF m 183 #[iv p0s, iv p1s, iv p2s, iv p3s, rv o1, rv o2, iv 1, iv 0] [(.int 0), (.int 1)]) _
        refine XS.ifNo X2.here hx rfl (hb hby at_183) rfl ((if0 _ _).trans (teq (by decide : (0 : Int32) = (0 : Int32))).2) ?_
        show SF p e below T2 (mkF m 186 #[iv p0s, iv p1s, iv p2s, iv p3s, rv o1, rv o2, iv 1, iv 0] [(.int 1)]) _
        refine XS.iconst X2.here hx rfl (hb hby at_186) ?_
        show SF p e below T2 (mkF m 187 #[iv p0s, iv p1s, iv p2s, iv p3s, rv o1, rv o2, iv 1, iv 0] [(.int 1), (.int 1)]) _
        refine XS.goto X2.here hx rfl (pc0 := 187) (pc' := 191) rfl (hb hby at_187) (by decide) (by decide) ?_
        show SF p e below T2 (mkF m 191 #[iv p0s, iv p1s, iv p2s, iv p3s, rv o1, rv o2, iv 1, iv 0] [(.int 1), (.int 1)]) _
        refine XS.icmpNo X2.here hx rfl (hb hby at_191) rfl (teq (by decide : (1 : Int32) = (1 : Int32))).2 ?_
        show SF p e below T2 (mkF m 194 #[iv p0s, iv p1s, iv p2s, iv p3s, rv o1, rv o2, iv 1, iv 0] []) _
        refine XS.iconst X2.here hx rfl (hb hby at_194) ?_
        show SF p e below T2 (mkF m 195 #[iv p0s, iv p1s, iv p2s, iv p3s, rv o1, rv o2, iv 1, iv 0] [(.int 1)]) _
        refine XS.goto X2.here hx rfl (pc0 := 195) (pc' := 199) rfl (hb hby at_195) (by decide) (by decide) ?_
        show SF p e below T2 (mkF m 199 #[iv p0s, iv p1s, iv p2s, iv p3s, rv o1, rv o2, iv 1, iv 0] [(.int 1)]) _
        refine XS.istore X2.here hx rfl (hb hby at_199) rfl (l' := #[iv p0s, iv p1s, iv p2s, iv p3s, rv o1, rv o2, iv 1, iv 0]) rfl ?_
        show SF p e below T2 (mkF m 201 #[iv p0s, iv p1s, iv p2s, iv p3s, rv o1, rv o2, iv 1, iv 0] []) _
        refine XS.iload X2.here hx rfl (hb hby at_201) rfl ?_
        show SF p e below T2 (mkF m 203 #[iv p0s, iv p1s, iv p2s, iv p3s, rv o1, rv o2, iv 1, iv 0] [(.int 1)]) _
        exact retN X2 hx (t := .boolean) hre (by simp) (hb hby at_203) hr
      · exact ⟨rfl, N2⟩
-- ListValue.push 
def Q5_33 (Z : State) (u1 : Addr) (w2 : Addr) (u2 : Addr) (u3 : Addr) (u4 : ClassId) (u5 : Int32) (h0 : Heap) (n0 : Nat) (v : Option Value) (h : Heap) (L : List Loc) : Prop := ∃ e1x : Int32, (¬ e1x < (0 : Int32) ∧ e1x < (8 : Int32)) ∧ v = none ∧ Fr n0 L ∧ Keep h0 h [u1, u3] ∧ Fld Z h u1 "com/example/afterlog/afterlog/ListValue" "size" "I" (.int 3) ∧ Fld Z h u1 "com/example/afterlog/afterlog/ListValue" "elements" "[[B" (.ref u3) ∧ Exa Z h u1 "com/example/afterlog/afterlog/ListValue" ∧ Fld Z h u1 "com/example/afterlog/afterlog/ListValue" "head" "I" (.int e1x) ∧ Ary Z h u3 u4 (.array .byte) (8 : Int32) ∧ Exa Z h u3 "[[B"
set_option maxRecDepth 65536 in
set_option maxHeartbeats 40000000 in
theorem rm5_33 (l : Launch) (Z : State) (a0 : Array Value) (hw : HW Z a0) (ws : List Jvm.Cond) (u1 : Addr) (w2 : Addr) (u2 : Addr) (u3 : Addr) (u4 : ClassId) (u5 : Int32) (h0 : Heap) (n0 : Nat) (Z0 : n0 ≤ h0.size) (P1 : Fld Z h0 u1 "com/example/afterlog/afterlog/ListValue" "size" "I" (.int 2)) (P2 : Fld Z h0 u1 "com/example/afterlog/afterlog/ListValue" "elements" "[[B" (.ref u3)) (P3 : Ary Z h0 u3 u4 (.array .byte) (8 : Int32)) (Sg2 : Sta Z Z.heap "com/example/afterlog/afterlog/ListValue$End" "HEAD" "Lcom/example/afterlog/afterlog/ListValue$End;" (.ref w2)) (P5 : Old Z n0 h0) (P6 : Exa Z h0 u1 "com/example/afterlog/afterlog/ListValue") (P7 : Fld Z h0 u1 "com/example/afterlog/afterlog/ListValue" "head" "I" (.int u5)) (P8 : ¬ u5 < (0 : Int32) ∧ u5 < (8 : Int32)) (P9 : n0 ≤ u1) (P10 : Exa Z h0 u3 "[[B") (P11 : u3 ≠ u1) (P12 : OvrA Z u4 .byte "[B") (P13 : Exa Z h0 u2 "[B") (P14 : n0 ≤ u3) :
    MF l Z (⟨"com/example/afterlog/afterlog/ListValue", "push", "(Lcom/example/afterlog/afterlog/ListValue$End;[B)V"⟩ : MethodName) (Jvm.Cond.code (⟨"com/example/afterlog/afterlog/ListValue", "push", "(Lcom/example/afterlog/afterlog/ListValue$End;[B)V"⟩ : MethodName) prog_24_method_6_code 3 none) ws ({ frames := 1, cells := 0, slots := 0, locals := 15 } : Room) #[(.ref u1), (.ref w2), (.ref u2)] h0 (Q5_33 Z u1 w2 u2 u3 u4 u5 h0 n0) := by
  refine MetFree.of_bodySF (plainFor_of_name pn_0) hisR ?_
  intro p e s m args below meth c s₁ Bd hml0 hP hK
  obtain ⟨rfl, hZ, hh⟩ := hP
  have hx := Bd.exec
  have hby := Bd.bytes
  have hml : c.maxLocals = 3 := hml0
  have hown : s.vm.findClass "com/example/afterlog/afterlog/ListValue" = some m.cls := findClass_of_methodNamed Bd.named
  have hnm := (name_of_methodNamed Bd.named Bd.method).1
  have X0 : Stand p l e ({ frames := 1, cells := 0, slots := 0, locals := 15 } : Room) s m #[(.ref u1), (.ref w2), (.ref u2)] below meth c s₁ [] 0 0 := Stand.of_body Bd
  have e0 : s₁.heap = h0 := by rw [← hh, Bd.state]; rfl
  have N0 := Fr.nil n0
  have pre0 : ∀ t, SF p e below s₁ (mkF m 0 #[rv u1, rv w2, rv u2] []) t → SF p e below s₁ (entryFrame m #[(.ref u1), (.ref w2), (.ref u2)] 3) t := fun t k => castTop (ef_3 m u1 w2 u2) k
  obtain ⟨T1, X1, e1, st1⟩ := getF X0 hx hZ hown (host := "") (Or.inl (tw hw 19 rfl)) Via.refl e0 P1 (g := (mkF m 1 #[rv u1, rv w2, rv u2] [(.ref u1)])) rfl rfl (hb hby d5_1)
  obtain ⟨T2, X2, e2, st2⟩ := getF X1 hx hZ hown (host := "") (Or.inl (tw hw 12 rfl)) Via.refl e1 P2 (g := (mkF m 5 #[rv u1, rv w2, rv u2] [(.ref u1), (.int 2)])) rfl rfl (hb hby d5_5)
  obtain ⟨cl3, Ar3, q3, S3, N3z, H3⟩ := id P3
  obtain ⟨T4, X4, e4, st4⟩ := getS2 X2 hx hZ hown (host := "") (Or.inl (tw hw 33 rfl)) Via.refl e2 (Sg2.ext P5.2) (g := (mkF m 17 #[rv u1, rv w2, rv u2] [(.ref w2)])) rfl (hb hby d5_17)
  obtain ⟨T5, X5, e5, st5⟩ := getF X4 hx hZ hown (host := "") (Or.inl (tw hw 12 rfl)) Via.refl e4 P2 (g := (mkF m 26 #[rv u1, rv w2, rv u2] [(.ref u1), (.ref u1), (.ref u1)])) rfl rfl (hb hby d5_26)
  obtain ⟨cl6, Ar6, q6, S6, N6z, H6⟩ := id P3
  obtain ⟨cq7, q7, q7'⟩ := P6.cell
  obtain ⟨_, _, ⟨T7, L7, k7x, n7⟩, -, X7, ⟨Lc7, hQ7, l7, y7, z7⟩, st7⟩ := X5.privateBack hx (y := (⟨"com/example/afterlog/afterlog/ListValue", "slot", "(I)I"⟩ : MethodName)) hown (mvT hZ (tw hw 35 rfl)) (mvT hZ (tw hw 36 rfl)) (own_selP hZ (tw hw 2 rfl) (tw hw 37 rfl) (tw hw 36 rfl) (by decide)) (Cond.privateMethod_at (mvP hZ (tw hw 37 rfl) (args := #[]))) (mvT hZ (tw hw 38 rfl)) (by decide) (backOf (W := 1) (own_slot l Z a0 hw [] u1 u3 u4 u5 (7 : Int32) h0 n0 Z0 P2 P7 P3 P8 ⟨by decide, by decide⟩) hZ (tw hw 38 rfl) (tw hw 3 rfl) (by decide) (by decide)) (g := (mkF m 32 #[rv u1, rv w2, rv u2] [(.int 7), (.ref u1), (.ref u1)])) rfl (by rw [hml]; rfl) (Steps.refl _) (a := u1) (by rw [e5]; exact q7) q7' (argsL := [(.int 7)]) (rest := [(.ref u1)]) (lenOf pd_2 rfl) rfl (by show 2 * 0 + _ ≤ _; exact Nat.le_of_eq rfl) (hb hby d5_32) (fun _ _ => ⟨rfl, e5, (by decide : 0 + 0 ≤ _), (by decide : 0 + 0 ≤ _)⟩)
  dsimp only [Pt.U, Pt.locs, Pt.cells, Pt.slots] at X7 l7 y7 z7 st7 hQ7
  subst l7 y7 z7
  obtain ⟨e1x, bx_i8, rfl, N7q, e7⟩ := hQ7
  have N7 := Fr.app N0 N7q
  obtain ⟨T8, h8, X8, e8, W8, st8⟩ := putF X7 hx hZ hown (host := "") (Or.inl (tw hw 39 rfl)) Via.refl e7 P7 P6 (Or.inl (tw hw 40 rfl)) (tw hw 2 rfl) (ty := .int) (by decide) rfl rfl (g := (mkF m 35 #[rv u1, rv w2, rv u2] [(.int e1x), (.ref u1)])) rfl rfl (hb hby d5_35)
  have K8 : Keep h0 h8 [u1, u3] := (Keep.refl h0 [u1, u3]).wr W8 (Or.inl (List.mem_of_getElem? (i := 0) rfl))
  have N8 := Fr.snoc X8 N7 P9
  have Fw8 : Fld Z h8 u1 "com/example/afterlog/afterlog/ListValue" "head" "I" (.int e1x) := P7.same W8
  have F1_9 : Fld Z h8 u1 "com/example/afterlog/afterlog/ListValue" "elements" "[[B" (.ref u3) := P2.other W8 (Or.inr (slot_ne (Or.inl (tw hw 13 rfl)) (Or.inl (tw hw 40 rfl)) (by decide) (t := (.array (.array .byte))) (t' := .int) (by decide) (by decide)))
  obtain ⟨T10, X10, e10, st10⟩ := getF X8 hx hZ hown (host := "") (Or.inl (tw hw 12 rfl)) Via.refl e8 F1_9 (g := (mkF m 39 #[rv u1, rv w2, rv u2] [(.ref u1)])) rfl rfl (hb hby d5_39)
  obtain ⟨T11, X11, e11, st11⟩ := getF X10 hx hZ hown (host := "") (Or.inl (tw hw 39 rfl)) Via.refl e10 Fw8 (g := (mkF m 43 #[rv u1, rv w2, rv u2] [(.ref u1), (.ref u3)])) rfl rfl (hb hby d5_43)
  have F1_12 : Exa Z h8 u3 "[[B" := P10.wr W8
  have F1_13 : Ary Z h8 u3 u4 (.array .byte) (8 : Int32) := P3.other W8 P11
  obtain ⟨cl14, Ar14, q14, S14, N14z, H14⟩ := id F1_13
  have hin14 : ¬ (e1x < 0 ∨ cl14.slots.size ≤ (e1x).toNatClampNeg) := inb_of S14 ⟨(bx_i8).1, (bx_i8).2⟩
  have F1_15 : Exa Z h8 u2 "[B" := P13.wr W8
  obtain ⟨T16, h16, X16, e16, W16, st16⟩ := stR X11 hx hZ e11 Ar14 (j := e1x) hin14 rfl (Sto.ofVA Ar14 q14 P12 (Ins.self F1_15)) (g := (mkF m 47 #[rv u1, rv w2, rv u2] [(.ref u2), (.int e1x), (.ref u3)])) rfl rfl (hb hby d5_47)
  have K16 : Keep h0 h16 [u1, u3] := K8.wr W16 (Or.inl (List.mem_of_getElem? (i := 1) rfl))
  have N16 := Fr.snoc X16 N8 P14
  have V16 : Ary Z h16 u3 u4 (.array .byte) (8 : Int32) := Ary.set Ar14 q14 S14 N14z H14 rfl W16
  have F1_17 : Fld Z h8 u1 "com/example/afterlog/afterlog/ListValue" "size" "I" (.int 2) := P1.other W8 (Or.inr (slot_ne (Or.inl (tw hw 20 rfl)) (Or.inl (tw hw 40 rfl)) (by decide) (t := .int) (t' := .int) (by decide) (by decide)))
  have F2_18 : Fld Z h16 u1 "com/example/afterlog/afterlog/ListValue" "size" "I" (.int 2) := F1_17.other W16 (Or.inl (Ne.symm P11))
  obtain ⟨T19, X19, e19, st19⟩ := getF X16 hx hZ hown (host := "") (Or.inl (tw hw 19 rfl)) Via.refl e16 F2_18 (g := (mkF m 67 #[rv u1, rv w2, rv u2] [(.ref u1), (.ref u1)])) rfl rfl (hb hby d5_67)
  have F1_20 : Exa Z h8 u1 "com/example/afterlog/afterlog/ListValue" := P6.wr W8
  have F2_21 : Exa Z h16 u1 "com/example/afterlog/afterlog/ListValue" := F1_20.wr W16
  have F2_22 : Fld Z h16 u1 "com/example/afterlog/afterlog/ListValue" "elements" "[[B" (.ref u3) := F1_9.other W16 (Or.inl (Ne.symm P11))
  have F2_23 : Fld Z h16 u1 "com/example/afterlog/afterlog/ListValue" "head" "I" (.int e1x) := Fw8.other W16 (Or.inl (Ne.symm P11))
  obtain ⟨T24, h24, X24, e24, W24, st24⟩ := putF X19 hx hZ hown (host := "") (Or.inl (tw hw 19 rfl)) Via.refl e19 F2_18 F2_21 (Or.inl (tw hw 20 rfl)) (tw hw 2 rfl) (ty := .int) (by decide) rfl rfl (g := (mkF m 72 #[rv u1, rv w2, rv u2] [(.int 3), (.ref u1)])) rfl rfl (hb hby d5_72)
  have K24 : Keep h0 h24 [u1, u3] := K16.wr W24 (Or.inl (List.mem_of_getElem? (i := 0) rfl))
  have N24 := Fr.snoc X24 N16 P9
  have Fw24 : Fld Z h24 u1 "com/example/afterlog/afterlog/ListValue" "size" "I" (.int 3) := F2_18.same W24
  have F3_25 : Fld Z h24 u1 "com/example/afterlog/afterlog/ListValue" "elements" "[[B" (.ref u3) := F2_22.other W24 (Or.inr (slot_ne (Or.inl (tw hw 13 rfl)) (Or.inl (tw hw 20 rfl)) (by decide) (t := (.array (.array .byte))) (t' := .int) (by decide) (by decide)))
  have F3_26 : Exa Z h24 u1 "com/example/afterlog/afterlog/ListValue" := F2_21.wr W24
  have F3_27 : Fld Z h24 u1 "com/example/afterlog/afterlog/ListValue" "head" "I" (.int e1x) := F2_23.other W24 (Or.inr (slot_ne (Or.inl (tw hw 40 rfl)) (Or.inl (tw hw 20 rfl)) (by decide) (t := .int) (t' := .int) (by decide) (by decide)))
  have F3_28 : Ary Z h24 u3 u4 (.array .byte) (8 : Int32) := V16.other W24 P11
  have F2_29 : Exa Z h16 u3 "[[B" := F1_12.wr W16
  have F3_30 : Exa Z h24 u3 "[[B" := F2_29.wr W24
  obtain ⟨fs, hr, hrun, hended, hW, hsame⟩ := X24.leave (v := none) (fun _ => rfl)
  refine ⟨_, _, pre0 _ ?_, hrun, hended, _, _, rfl, ?_, ⟨_, rfl⟩, hW, hsame.mono (by decide) (by decide)⟩
  · show SF p e below s₁ (mkF m 0 #[rv u1, rv w2, rv u2] []) _
    refine XS.aloadN X0.here hx rfl (hb hby d5_0) rfl rfl ?_
    show SF p e below s₁ (mkF m 1 #[rv u1, rv w2, rv u2] [(.ref u1)]) _
    refine st1 _ ?_
    show SF p e below T1 (mkF m 4 #[rv u1, rv w2, rv u2] [(.int 2)]) _
    refine XS.aloadN X1.here hx rfl (hb hby d5_4) rfl rfl ?_
    show SF p e below T1 (mkF m 5 #[rv u1, rv w2, rv u2] [(.ref u1), (.int 2)]) _
    refine st2 _ ?_
    show SF p e below T2 (mkF m 8 #[rv u1, rv w2, rv u2] [(.ref u3), (.int 2)]) _
    refine X2.arraylength hx (by rw [e2]; exact Ar3.1) (State.isArrayOf_alike hZ.alike Ar3.2.1) (g := (mkF m 8 #[rv u1, rv w2, rv u2] [(.ref u3), (.int 2)])) rfl rfl (hb hby d5_8) _ ?_
    rw [len_of S3 N3z]
    show SF p e below T2 (mkF m 9 #[rv u1, rv w2, rv u2] [(.int 8), (.int 2)]) _
    refine XS.icmpYes X2.here hx rfl (pc0 := 9) (pc' := 16) rfl (hb hby d5_9) rfl (feq (by decide : ¬ ((2 : Int32) = (8 : Int32)))).2 (by decide) (by decide) ?_
    show SF p e below T2 (mkF m 16 #[rv u1, rv w2, rv u2] []) _
    refine XS.aloadN X2.here hx rfl (hb hby d5_16) rfl rfl ?_
    show SF p e below T2 (mkF m 17 #[rv u1, rv w2, rv u2] [(.ref w2)]) _
    refine st4 _ ?_
    show SF p e below T4 (mkF m 20 #[rv u1, rv w2, rv u2] [(.ref w2), (.ref w2)]) _
    refine Jvm.RoadKit.acmp (g := (mkF m 20 #[rv u1, rv w2, rv u2] [(.ref w2), (.ref w2)])) X4 hx rfl rfl rfl (pc0 := 20) (pc' := 23) (same := true) rfl (hb hby d5_20) rfl (decide_eq_true rfl) (by decide) (by decide) ?_
    show SF p e below T4 (mkF m 23 #[rv u1, rv w2, rv u2] []) _
    refine XS.aloadN X4.here hx rfl (hb hby d5_23) rfl rfl ?_
    show SF p e below T4 (mkF m 24 #[rv u1, rv w2, rv u2] [(.ref u1)]) _
    refine XS.aloadN X4.here hx rfl (hb hby d5_24) rfl rfl ?_
    show SF p e below T4 (mkF m 25 #[rv u1, rv w2, rv u2] [(.ref u1), (.ref u1)]) _
    refine XS.aloadN X4.here hx rfl (hb hby d5_25) rfl rfl ?_
    show SF p e below T4 (mkF m 26 #[rv u1, rv w2, rv u2] [(.ref u1), (.ref u1), (.ref u1)]) _
    refine st5 _ ?_
    show SF p e below T5 (mkF m 29 #[rv u1, rv w2, rv u2] [(.ref u3), (.ref u1), (.ref u1)]) _
    refine X5.arraylength hx (by rw [e5]; exact Ar6.1) (State.isArrayOf_alike hZ.alike Ar6.2.1) (g := (mkF m 29 #[rv u1, rv w2, rv u2] [(.ref u3), (.ref u1), (.ref u1)])) rfl rfl (hb hby d5_29) _ ?_
    rw [len_of S6 N6z]
    show SF p e below T5 (mkF m 30 #[rv u1, rv w2, rv u2] [(.int 8), (.ref u1), (.ref u1)]) _
    refine XS.iconst X5.here hx rfl (hb hby d5_30) ?_
    show SF p e below T5 (mkF m 31 #[rv u1, rv w2, rv u2] [(.int 1), (.int 8), (.ref u1), (.ref u1)]) _
    refine XS.isub X5.here hx rfl (hb hby d5_31) rfl ?_
    show SF p e below T5 (mkF m 32 #[rv u1, rv w2, rv u2] [(.int ((8 : Int32) - (1 : Int32))), (.ref u1), (.ref u1)]) _
    rw [show ((8 : Int32) - (1 : Int32)) = (7 : Int32) from by decide]
    show SF p e below T5 (mkF m 32 #[rv u1, rv w2, rv u2] [(.int 7), (.ref u1), (.ref u1)]) _
    refine st7.trans ?_
    show SF p e below T7 (mkF m 35 #[rv u1, rv w2, rv u2] [(.int e1x), (.ref u1)]) _
    refine st8 _ ?_
    show SF p e below T8 (mkF m 38 #[rv u1, rv w2, rv u2] []) _
    refine XS.aloadN X8.here hx rfl (hb hby d5_38) rfl rfl ?_
    show SF p e below T8 (mkF m 39 #[rv u1, rv w2, rv u2] [(.ref u1)]) _
    refine st10 _ ?_
    show SF p e below T10 (mkF m 42 #[rv u1, rv w2, rv u2] [(.ref u3)]) _
    refine XS.aloadN X10.here hx rfl (hb hby d5_42) rfl rfl ?_
    show SF p e below T10 (mkF m 43 #[rv u1, rv w2, rv u2] [(.ref u1), (.ref u3)]) _
    refine st11 _ ?_
    show SF p e below T11 (mkF m 46 #[rv u1, rv w2, rv u2] [(.int e1x), (.ref u3)]) _
    refine XS.aloadN X11.here hx rfl (hb hby d5_46) rfl rfl ?_
    show SF p e below T11 (mkF m 47 #[rv u1, rv w2, rv u2] [(.ref u2), (.int e1x), (.ref u3)]) _
    refine st16 _ ?_
    show SF p e below T16 (mkF m 48 #[rv u1, rv w2, rv u2] []) _
    refine XS.goto X16.here hx rfl (pc0 := 48) (pc' := 65) rfl (hb hby d5_48) (by decide) (by decide) ?_
    show SF p e below T16 (mkF m 65 #[rv u1, rv w2, rv u2] []) _
    refine XS.aloadN X16.here hx rfl (hb hby d5_65) rfl rfl ?_
    show SF p e below T16 (mkF m 66 #[rv u1, rv w2, rv u2] [(.ref u1)]) _
    refine XS.dup X16.here hx rfl (hb hby d5_66) rfl rfl ?_
    show SF p e below T16 (mkF m 67 #[rv u1, rv w2, rv u2] [(.ref u1), (.ref u1)]) _
    refine st19 _ ?_
    show SF p e below T19 (mkF m 70 #[rv u1, rv w2, rv u2] [(.int 2), (.ref u1)]) _
    refine XS.iconst X19.here hx rfl (hb hby d5_70) ?_
    show SF p e below T19 (mkF m 71 #[rv u1, rv w2, rv u2] [(.int 1), (.int 2), (.ref u1)]) _
    refine XS.iadd X19.here hx rfl (hb hby d5_71) rfl ?_
    show SF p e below T19 (mkF m 72 #[rv u1, rv w2, rv u2] [(.int ((2 : Int32) + (1 : Int32))), (.ref u1)]) _
    rw [show ((2 : Int32) + (1 : Int32)) = (3 : Int32) from by decide]
    show SF p e below T19 (mkF m 72 #[rv u1, rv w2, rv u2] [(.int 3), (.ref u1)]) _
    refine st24 _ ?_
    show SF p e below T24 (mkF m 75 #[rv u1, rv w2, rv u2] []) _
    exact X24.returnOut hx Bd.returns (hb hby d5_75) hr
  · show Q5_33 Z u1 w2 u2 u3 u4 u5 h0 n0 _ T24.heap _
    rw [e24]
    exact ⟨e1x, bx_i8, rfl, N24, K24, Fw24, F3_25, F3_26, F3_27, F3_28, F3_30⟩
-- ListValueIsEmptyPinLaw.step 
def Q4_34 (Z : State) (u1 : Addr) (u2 : Int32) (u3 : Addr) (w2 : Addr) (u4 : Addr) (u5 : ClassId) (u6 : Int32) (h0 : Heap) (n0 : Nat) (v : Option Value) (h : Heap) (L : List Loc) : Prop := ∃ e1x : Int32, (¬ e1x < (0 : Int32) ∧ e1x < (8 : Int32)) ∧ v = some (.int 3) ∧ Fr n0 L ∧ Keep h0 h [u1, u4] ∧ Exa Z h u1 "com/example/afterlog/afterlog/ListValue" ∧ Fld Z h u1 "com/example/afterlog/afterlog/ListValue" "size" "I" (.int 3) ∧ Fld Z h u1 "com/example/afterlog/afterlog/ListValue" "elements" "[[B" (.ref u4) ∧ Fld Z h u1 "com/example/afterlog/afterlog/ListValue" "head" "I" (.int e1x) ∧ Exa Z h u4 "[[B" ∧ Ary Z h u4 u5 (.array .byte) (8 : Int32)
set_option maxRecDepth 65536 in
set_option maxHeartbeats 40000000 in
theorem rm4_34 (l : Launch) (Z : State) (a0 : Array Value) (hw : HW Z a0) (ws : List Jvm.Cond) (u1 : Addr) (u2 : Int32) (u3 : Addr) (w2 : Addr) (u4 : Addr) (u5 : ClassId) (u6 : Int32) (h0 : Heap) (n0 : Nat) (Z0 : n0 ≤ h0.size) (P1 : ¬ ((u2 &&& (2 : Int32)) = (0 : Int32))) (Sg2 : Sta Z Z.heap "com/example/afterlog/afterlog/ListValue$End" "HEAD" "Lcom/example/afterlog/afterlog/ListValue$End;" (.ref w2)) (P3 : Old Z n0 h0) (P4 : (u2 &&& (1 : Int32)) = (0 : Int32)) (P5 : Exa Z h0 u1 "com/example/afterlog/afterlog/ListValue") (P6 : Fld Z h0 u1 "com/example/afterlog/afterlog/ListValue" "size" "I" (.int 2)) (P7 : Fld Z h0 u1 "com/example/afterlog/afterlog/ListValue" "elements" "[[B" (.ref u4)) (P8 : Ary Z h0 u4 u5 (.array .byte) (8 : Int32)) (P9 : Fld Z h0 u1 "com/example/afterlog/afterlog/ListValue" "head" "I" (.int u6)) (P10 : ¬ u6 < (0 : Int32) ∧ u6 < (8 : Int32)) (P11 : n0 ≤ u1) (P12 : Exa Z h0 u4 "[[B") (P13 : u4 ≠ u1) (P14 : OvrA Z u5 .byte "[B") (P15 : Exa Z h0 u3 "[B") (P16 : n0 ≤ u4) :
    MF l Z (⟨"com/example/afterlog/afterlog/ListValueIsEmptyPinLaw", "step", "(Lcom/example/afterlog/afterlog/ListValue;II[B)I"⟩ : MethodName) (Jvm.Cond.code (⟨"com/example/afterlog/afterlog/ListValueIsEmptyPinLaw", "step", "(Lcom/example/afterlog/afterlog/ListValue;II[B)I"⟩ : MethodName) method_3_code 5 (some .int)) ws ({ frames := 2, cells := 0, slots := 0, locals := 29 } : Room) #[(.ref u1), (.int 2), (.int u2), (.ref u3)] h0 (Q4_34 Z u1 u2 u3 w2 u4 u5 u6 h0 n0) := by
  refine MetFree.of_bodySF (plainFor_of_name pn_1) hisR ?_
  intro p e s m args below meth c s₁ Bd hml0 hP hK
  obtain ⟨rfl, hZ, hh⟩ := hP
  have hx := Bd.exec
  have hby := Bd.bytes
  have hml : c.maxLocals = 5 := hml0
  have hown : s.vm.findClass "com/example/afterlog/afterlog/ListValueIsEmptyPinLaw" = some m.cls := findClass_of_methodNamed Bd.named
  have hnm := (name_of_methodNamed Bd.named Bd.method).1
  have X0 : Stand p l e ({ frames := 2, cells := 0, slots := 0, locals := 29 } : Room) s m #[(.ref u1), (.int 2), (.int u2), (.ref u3)] below meth c s₁ [] 0 0 := Stand.of_body Bd
  have e0 : s₁.heap = h0 := by rw [← hh, Bd.state]; rfl
  have N0 := Fr.nil n0
  have pre0 : ∀ t, SF p e below s₁ (mkF m 0 #[rv u1, iv 2, iv u2, rv u3, .unset] []) t → SF p e below s₁ (entryFrame m #[(.ref u1), (.int 2), (.int u2), (.ref u3)] 5) t := fun t k => castTop (ef_4 m u1 (2 : Int32) u2 u3) k
  obtain ⟨T1, X1, e1, st1⟩ := getS2 X0 hx hZ hown (host := "") (Or.inl (tw hw 42 rfl)) Via.refl e0 (Sg2.ext P3.2) (g := (mkF m 6 #[rv u1, iv 2, iv u2, rv u3, .unset] [])) rfl (hb hby d4_6)
  obtain ⟨cq2, kq2, q2a, q2b, q2c⟩ := isOf hZ e1 P5
  obtain ⟨_, _, ⟨T2, L2, k2x, n2⟩, -, X2, ⟨Lc2, hQ2, l2, y2, z2⟩, st2⟩ := X1.virtualBack hx (y := (⟨"com/example/afterlog/afterlog/ListValue", "push", "(Lcom/example/afterlog/afterlog/ListValue$End;[B)V"⟩ : MethodName)) (z := (⟨"com/example/afterlog/afterlog/ListValue", "push", "(Lcom/example/afterlog/afterlog/ListValue$End;[B)V"⟩ : MethodName)) hown (mvT hZ (tw hw 28 rfl)) (mvT hZ (tw hw 29 rfl)) (notFace_of_selects (args := #[]) (mvT hZ (tw hw 31 rfl))) (mvT hZ (tw hw 31 rfl)) (mvT hZ (tw hw 30 rfl)) (by decide) (backOf (W := 0) (rm5_33 l Z a0 hw [] u1 w2 u3 u4 u5 u6 h0 n0 Z0 P6 P7 P8 Sg2 P3 P5 P9 P10 P11 P12 P13 P14 P15 P16) hZ (tw hw 32 rfl) (tw hw 3 rfl) (by decide) (by decide)) q2a q2c (g := (mkF m 42 #[rv u1, iv 2, iv u2, rv u3, rv w2] [(.ref u3), (.ref w2), (.ref u1)])) rfl (by rw [hml]; rfl) (Steps.refl _) (argsL := [(.ref w2), (.ref u3)]) (rest := []) (lenOf pd_3 rfl) rfl (by show 2 * 0 + _ ≤ _; exact Nat.le_of_eq rfl) (hb hby d4_42) (fun _ _ => ⟨rfl, e1, (by decide : 0 + 0 ≤ _), (by decide : 0 + 0 ≤ _)⟩)
  dsimp only [Pt.U, Pt.locs, Pt.cells, Pt.slots] at X2 l2 y2 z2 st2 hQ2
  subst l2 y2 z2
  obtain ⟨e1x, bx_i9, rfl, N2q, K2c, Fq2_0, Fq2_1, Fq2_2, Fq2_3, Fq2_4, Fq2_5⟩ := hQ2
  have K2 : Keep h0 T2.heap [u1, u4] := (Keep.refl h0 [u1, u4]).trans K2c (allS (Or.inl (List.mem_of_getElem? (i := 0) rfl)) (allS (Or.inl (List.mem_of_getElem? (i := 1) rfl)) all0))
  have N2 := Fr.app N0 N2q
  obtain ⟨fs, hr, hrun, hended, hW, hsame⟩ := X2.leave (v := some (.int 3)) (fun h => by rw [Bd.returns] at h; cases h)
  refine ⟨_, _, pre0 _ ?_, hrun, hended, _, _, rfl, ?_, ⟨_, rfl⟩, hW, hsame.mono (by decide) (by decide)⟩
  · show SF p e below s₁ (mkF m 0 #[rv u1, iv 2, iv u2, rv u3, .unset] []) _
    refine XS.iloadN X0.here hx rfl (hb hby d4_0) rfl ?_
    show SF p e below s₁ (mkF m 1 #[rv u1, iv 2, iv u2, rv u3, .unset] [(.int u2)]) _
    refine XS.iconst X0.here hx rfl (hb hby d4_1) ?_
    show SF p e below s₁ (mkF m 2 #[rv u1, iv 2, iv u2, rv u3, .unset] [(.int 2), (.int u2)]) _
    refine XS.iand X0.here hx rfl (hb hby d4_2) rfl ?_
    show SF p e below s₁ (mkF m 3 #[rv u1, iv 2, iv u2, rv u3, .unset] [(.int (u2 &&& (2 : Int32)))]) _
    refine XS.ifNo X0.here hx rfl (hb hby d4_3) rfl ((if0 _ _).trans (feq P1).1) ?_
    show SF p e below s₁ (mkF m 6 #[rv u1, iv 2, iv u2, rv u3, .unset] []) _
    refine st1 _ ?_
    show SF p e below T1 (mkF m 9 #[rv u1, iv 2, iv u2, rv u3, .unset] [(.ref w2)]) _
    refine XS.goto X1.here hx rfl (pc0 := 9) (pc' := 15) rfl (hb hby d4_9) (by decide) (by decide) ?_
    show SF p e below T1 (mkF m 15 #[rv u1, iv 2, iv u2, rv u3, .unset] [(.ref w2)]) _
    refine XS.astore X1.here hx rfl (hb hby d4_15) rfl rfl (l' := #[rv u1, iv 2, iv u2, rv u3, rv w2]) rfl ?_
    show SF p e below T1 (mkF m 17 #[rv u1, iv 2, iv u2, rv u3, rv w2] []) _
    refine XS.iloadN X1.here hx rfl (hb hby d4_17) rfl ?_
    show SF p e below T1 (mkF m 18 #[rv u1, iv 2, iv u2, rv u3, rv w2] [(.int u2)]) _
    refine XS.iconst X1.here hx rfl (hb hby d4_18) ?_
    show SF p e below T1 (mkF m 19 #[rv u1, iv 2, iv u2, rv u3, rv w2] [(.int 1), (.int u2)]) _
    refine XS.iand X1.here hx rfl (hb hby d4_19) rfl ?_
    show SF p e below T1 (mkF m 20 #[rv u1, iv 2, iv u2, rv u3, rv w2] [(.int (u2 &&& (1 : Int32)))]) _
    refine XS.ifYes X1.here hx rfl (pc0 := 20) (pc' := 38) rfl (hb hby d4_20) rfl ((if0 _ _).trans (teq P4).1) (by decide) (by decide) ?_
    show SF p e below T1 (mkF m 38 #[rv u1, iv 2, iv u2, rv u3, rv w2] []) _
    refine XS.aloadN X1.here hx rfl (hb hby d4_38) rfl rfl ?_
    show SF p e below T1 (mkF m 39 #[rv u1, iv 2, iv u2, rv u3, rv w2] [(.ref u1)]) _
    refine XS.aload X1.here hx rfl (hb hby d4_39) rfl rfl ?_
    show SF p e below T1 (mkF m 41 #[rv u1, iv 2, iv u2, rv u3, rv w2] [(.ref w2), (.ref u1)]) _
    refine XS.aloadN X1.here hx rfl (hb hby d4_41) rfl rfl ?_
    show SF p e below T1 (mkF m 42 #[rv u1, iv 2, iv u2, rv u3, rv w2] [(.ref u3), (.ref w2), (.ref u1)]) _
    refine st2.trans ?_
    show SF p e below T2 (mkF m 45 #[rv u1, iv 2, iv u2, rv u3, rv w2] []) _
    refine XS.iloadN X2.here hx rfl (hb hby d4_45) rfl ?_
    show SF p e below T2 (mkF m 46 #[rv u1, iv 2, iv u2, rv u3, rv w2] [(.int 2)]) _
    refine XS.iconst X2.here hx rfl (hb hby d4_46) ?_
    show SF p e below T2 (mkF m 47 #[rv u1, iv 2, iv u2, rv u3, rv w2] [(.int 1), (.int 2)]) _
    refine XS.iadd X2.here hx rfl (hb hby d4_47) rfl ?_
    show SF p e below T2 (mkF m 48 #[rv u1, iv 2, iv u2, rv u3, rv w2] [(.int ((2 : Int32) + (1 : Int32)))]) _
    rw [show ((2 : Int32) + (1 : Int32)) = (3 : Int32) from by decide]
    show SF p e below T2 (mkF m 48 #[rv u1, iv 2, iv u2, rv u3, rv w2] [(.int 3)]) _
    exact retI X2 hx Bd.returns (hb hby d4_48) hr
  · show Q4_34 Z u1 u2 u3 w2 u4 u5 u6 h0 n0 _ T2.heap _
    exact ⟨e1x, bx_i9, rfl, N2, K2, Fq2_2, Fq2_0, Fq2_1, Fq2_3, Fq2_5, Fq2_4⟩
-- ListValue.pop 
def Q7_35 (Z : State) (u1 : Addr) (w2 : Addr) (u2 : Int32) (u3 : Addr) (u4 : ClassId) (h0 : Heap) (n0 : Nat) (v : Option Value) (h : Heap) (L : List Loc) : Prop := ∃ e1x : Value, ∃ e2x : Int32, (e1x.isRef = true) ∧ (¬ e2x < (0 : Int32) ∧ e2x < (8 : Int32)) ∧ v = some e1x ∧ Fr n0 L ∧ Keep h0 h [u3, u1] ∧ Ary Z h u3 u4 (.array .byte) (8 : Int32) ∧ Exa Z h u3 "[[B" ∧ Fld Z h u1 "com/example/afterlog/afterlog/ListValue" "head" "I" (.int e2x) ∧ Fld Z h u1 "com/example/afterlog/afterlog/ListValue" "elements" "[[B" (.ref u3) ∧ Exa Z h u1 "com/example/afterlog/afterlog/ListValue" ∧ Fld Z h u1 "com/example/afterlog/afterlog/ListValue" "size" "I" (.int 1)
set_option maxRecDepth 65536 in
set_option maxHeartbeats 40000000 in
theorem rm7_35 (l : Launch) (Z : State) (a0 : Array Value) (hw : HW Z a0) (ws : List Jvm.Cond) (u1 : Addr) (w2 : Addr) (u2 : Int32) (u3 : Addr) (u4 : ClassId) (h0 : Heap) (n0 : Nat) (Z0 : n0 ≤ h0.size) (Sg2 : Sta Z Z.heap "com/example/afterlog/afterlog/ListValue$End" "HEAD" "Lcom/example/afterlog/afterlog/ListValue$End;" (.ref w2)) (P2 : Old Z n0 h0) (P3 : Fld Z h0 u1 "com/example/afterlog/afterlog/ListValue" "head" "I" (.int u2)) (P4 : Fld Z h0 u1 "com/example/afterlog/afterlog/ListValue" "elements" "[[B" (.ref u3)) (P5 : Ary Z h0 u3 u4 (.array .byte) (8 : Int32)) (P6 : ¬ u2 < (0 : Int32) ∧ u2 < (8 : Int32)) (P7 : Exa Z h0 u3 "[[B") (P8 : n0 ≤ u3) (P9 : Exa Z h0 u1 "com/example/afterlog/afterlog/ListValue") (P10 : u1 ≠ u3) (P11 : Fld Z h0 u1 "com/example/afterlog/afterlog/ListValue" "size" "I" (.int 2)) (P12 : n0 ≤ u1) :
    MF l Z (⟨"com/example/afterlog/afterlog/ListValue", "pop", "(Lcom/example/afterlog/afterlog/ListValue$End;)[B"⟩ : MethodName) (Jvm.Cond.code (⟨"com/example/afterlog/afterlog/ListValue", "pop", "(Lcom/example/afterlog/afterlog/ListValue$End;)[B"⟩ : MethodName) prog_24_method_7_code 4 (some (.array .byte))) ws ({ frames := 1, cells := 0, slots := 0, locals := 15 } : Room) #[(.ref u1), (.ref w2)] h0 (Q7_35 Z u1 w2 u2 u3 u4 h0 n0) := by
  refine MetFree.of_bodySF (plainFor_of_name pn_0) hisR ?_
  intro p e s m args below meth c s₁ Bd hml0 hP hK
  obtain ⟨rfl, hZ, hh⟩ := hP
  have hx := Bd.exec
  have hby := Bd.bytes
  have hml : c.maxLocals = 4 := hml0
  have hown : s.vm.findClass "com/example/afterlog/afterlog/ListValue" = some m.cls := findClass_of_methodNamed Bd.named
  have hnm := (name_of_methodNamed Bd.named Bd.method).1
  have X0 : Stand p l e ({ frames := 1, cells := 0, slots := 0, locals := 15 } : Room) s m #[(.ref u1), (.ref w2)] below meth c s₁ [] 0 0 := Stand.of_body Bd
  have e0 : s₁.heap = h0 := by rw [← hh, Bd.state]; rfl
  have N0 := Fr.nil n0
  have pre0 : ∀ t, SF p e below s₁ (mkF m 0 #[rv u1, rv w2, .unset, .unset] []) t → SF p e below s₁ (entryFrame m #[(.ref u1), (.ref w2)] 4) t := fun t k => castTop (ef_5 m u1 w2) k
  obtain ⟨T1, X1, e1, st1⟩ := getS2 X0 hx hZ hown (host := "") (Or.inl (tw hw 33 rfl)) Via.refl e0 (Sg2.ext P2.2) (g := (mkF m 1 #[rv u1, rv w2, .unset, .unset] [(.ref w2)])) rfl (hb hby d7_1)
  obtain ⟨T2, X2, e2, st2⟩ := getF X1 hx hZ hown (host := "") (Or.inl (tw hw 39 rfl)) Via.refl e1 P3 (g := (mkF m 8 #[rv u1, rv w2, .unset, .unset] [(.ref u1)])) rfl rfl (hb hby d7_8)
  obtain ⟨T3, X3, e3, st3⟩ := getF X2 hx hZ hown (host := "") (Or.inl (tw hw 12 rfl)) Via.refl e2 P4 (g := (mkF m 26 #[rv u1, rv w2, iv u2, .unset] [(.ref u1)])) rfl rfl (hb hby d7_26)
  obtain ⟨cl4, Ar4, q4, S4, N4z, H4⟩ := id P5
  have hin4 : ¬ (u2 < 0 ∨ cl4.slots.size ≤ (u2).toNatClampNeg) := inb_of S4 ⟨(P6).1, (P6).2⟩
  obtain ⟨e1x, hat4, rv4⟩ := H4 (u2).toNatClampNeg (Nat.lt_of_not_le fun y => hin4 (Or.inr y))
  obtain ⟨T5, X5, e5, st5⟩ := getF X3 hx hZ hown (host := "") (Or.inl (tw hw 12 rfl)) Via.refl e3 P4 (g := (mkF m 33 #[rv u1, rv w2, iv u2, .val e1x] [(.ref u1)])) rfl rfl (hb hby d7_33)
  obtain ⟨cl6, Ar6, q6, S6, N6z, H6⟩ := id P5
  have hin6 : ¬ (u2 < 0 ∨ cl6.slots.size ≤ (u2).toNatClampNeg) := inb_of S6 ⟨(P6).1, (P6).2⟩
  obtain ⟨T7, h7, X7, e7, W7, st7⟩ := stR X5 hx hZ e5 Ar6 (j := u2) hin6 rfl (Or.inl rfl) (g := (mkF m 38 #[rv u1, rv w2, iv u2, .val e1x] [.null, (.int u2), (.ref u3)])) rfl rfl (hb hby d7_38)
  have K7 : Keep h0 h7 [u3, u1] := (Keep.refl h0 [u3, u1]).wr W7 (Or.inl (List.mem_of_getElem? (i := 0) rfl))
  have N7 := Fr.snoc X7 N0 P8
  have V7 : Ary Z h7 u3 u4 (.array .byte) (8 : Int32) := Ary.set Ar6 q6 S6 N6z H6 rfl W7
  have O7 : Old Z n0 h7 := P2.wr W7 P8
  obtain ⟨T8, X8, e8, st8⟩ := getS2 X7 hx hZ hown (host := "") (Or.inl (tw hw 33 rfl)) Via.refl e7 (Sg2.ext O7.2) (g := (mkF m 40 #[rv u1, rv w2, iv u2, .val e1x] [(.ref w2)])) rfl (hb hby d7_40)
  have F1_9 : Exa Z h7 u1 "com/example/afterlog/afterlog/ListValue" := P9.wr W7
  have F1_10 : Fld Z h7 u1 "com/example/afterlog/afterlog/ListValue" "elements" "[[B" (.ref u3) := P4.other W7 (Or.inl P10)
  have F1_11 : Fld Z h7 u1 "com/example/afterlog/afterlog/ListValue" "head" "I" (.int u2) := P3.other W7 (Or.inl P10)
  have Z7 : n0 ≤ h7.size := Nat.le_trans Z0 (Keep.of_wr W7).1
  obtain ⟨cq12, q12, q12'⟩ := F1_9.cell
  obtain ⟨_, _, ⟨T12, L12, k12x, n12⟩, -, X12, ⟨Lc12, hQ12, l12, y12, z12⟩, st12⟩ := X8.privateBack hx (y := (⟨"com/example/afterlog/afterlog/ListValue", "slot", "(I)I"⟩ : MethodName)) hown (mvT hZ (tw hw 35 rfl)) (mvT hZ (tw hw 36 rfl)) (own_selP hZ (tw hw 2 rfl) (tw hw 37 rfl) (tw hw 36 rfl) (by decide)) (Cond.privateMethod_at (mvP hZ (tw hw 37 rfl) (args := #[]))) (mvT hZ (tw hw 38 rfl)) (by decide) (backOf (W := 1) (own_slot l Z a0 hw [] u1 u3 u4 u2 (1 : Int32) h7 n0 Z7 F1_10 F1_11 V7 P6 ⟨by decide, by decide⟩) hZ (tw hw 38 rfl) (tw hw 3 rfl) (by decide) (by decide)) (g := (mkF m 49 #[rv u1, rv w2, iv u2, .val e1x] [(.int 1), (.ref u1), (.ref u1)])) rfl (by rw [hml]; rfl) (Steps.refl _) (a := u1) (by rw [e8]; exact q12) q12' (argsL := [(.int 1)]) (rest := [(.ref u1)]) (lenOf pd_2 rfl) rfl (by show 2 * 0 + _ ≤ _; exact Nat.le_of_eq rfl) (hb hby d7_49) (fun _ _ => ⟨rfl, e8, (by decide : 0 + 0 ≤ _), (by decide : 0 + 0 ≤ _)⟩)
  dsimp only [Pt.U, Pt.locs, Pt.cells, Pt.slots] at X12 l12 y12 z12 st12 hQ12
  subst l12 y12 z12
  obtain ⟨e2x, bx_i9, rfl, N12q, e12⟩ := hQ12
  have N12 := Fr.app N7 N12q
  have F1_13 : Fld Z h7 u1 "com/example/afterlog/afterlog/ListValue" "size" "I" (.int 2) := P11.other W7 (Or.inl P10)
  obtain ⟨T14, h14, X14, e14, W14, st14⟩ := putF X12 hx hZ hown (host := "") (Or.inl (tw hw 39 rfl)) Via.refl e12 F1_11 F1_9 (Or.inl (tw hw 40 rfl)) (tw hw 2 rfl) (ty := .int) (by decide) rfl rfl (g := (mkF m 52 #[rv u1, rv w2, iv u2, .val e1x] [(.int e2x), (.ref u1)])) rfl rfl (hb hby d7_52)
  have K14 : Keep h0 h14 [u3, u1] := K7.wr W14 (Or.inl (List.mem_of_getElem? (i := 1) rfl))
  have N14 := Fr.snoc X14 N12 P12
  have Fw14 : Fld Z h14 u1 "com/example/afterlog/afterlog/ListValue" "head" "I" (.int e2x) := F1_11.same W14
  have F2_15 : Fld Z h14 u1 "com/example/afterlog/afterlog/ListValue" "size" "I" (.int 2) := F1_13.other W14 (Or.inr (slot_ne (Or.inl (tw hw 20 rfl)) (Or.inl (tw hw 40 rfl)) (by decide) (t := .int) (t' := .int) (by decide) (by decide)))
  obtain ⟨T16, X16, e16, st16⟩ := getF X14 hx hZ hown (host := "") (Or.inl (tw hw 19 rfl)) Via.refl e14 F2_15 (g := (mkF m 57 #[rv u1, rv w2, iv u2, .val e1x] [(.ref u1), (.ref u1)])) rfl rfl (hb hby d7_57)
  have F2_17 : Exa Z h14 u1 "com/example/afterlog/afterlog/ListValue" := F1_9.wr W14
  have F2_18 : Fld Z h14 u1 "com/example/afterlog/afterlog/ListValue" "elements" "[[B" (.ref u3) := F1_10.other W14 (Or.inr (slot_ne (Or.inl (tw hw 13 rfl)) (Or.inl (tw hw 40 rfl)) (by decide) (t := (.array (.array .byte))) (t' := .int) (by decide) (by decide)))
  obtain ⟨T19, h19, X19, e19, W19, st19⟩ := putF X16 hx hZ hown (host := "") (Or.inl (tw hw 19 rfl)) Via.refl e16 F2_15 F2_17 (Or.inl (tw hw 20 rfl)) (tw hw 2 rfl) (ty := .int) (by decide) rfl rfl (g := (mkF m 62 #[rv u1, rv w2, iv u2, .val e1x] [(.int 1), (.ref u1)])) rfl rfl (hb hby d7_62)
  have K19 : Keep h0 h19 [u3, u1] := K14.wr W19 (Or.inl (List.mem_of_getElem? (i := 1) rfl))
  have N19 := Fr.snoc X19 N14 P12
  have Fw19 : Fld Z h19 u1 "com/example/afterlog/afterlog/ListValue" "size" "I" (.int 1) := F2_15.same W19
  have F2_20 : Ary Z h14 u3 u4 (.array .byte) (8 : Int32) := V7.other W14 (Ne.symm P10)
  have F3_21 : Ary Z h19 u3 u4 (.array .byte) (8 : Int32) := F2_20.other W19 (Ne.symm P10)
  have F1_22 : Exa Z h7 u3 "[[B" := P7.wr W7
  have F2_23 : Exa Z h14 u3 "[[B" := F1_22.wr W14
  have F3_24 : Exa Z h19 u3 "[[B" := F2_23.wr W19
  have F3_25 : Fld Z h19 u1 "com/example/afterlog/afterlog/ListValue" "head" "I" (.int e2x) := Fw14.other W19 (Or.inr (slot_ne (Or.inl (tw hw 40 rfl)) (Or.inl (tw hw 20 rfl)) (by decide) (t := .int) (t' := .int) (by decide) (by decide)))
  have F3_26 : Fld Z h19 u1 "com/example/afterlog/afterlog/ListValue" "elements" "[[B" (.ref u3) := F2_18.other W19 (Or.inr (slot_ne (Or.inl (tw hw 13 rfl)) (Or.inl (tw hw 20 rfl)) (by decide) (t := (.array (.array .byte))) (t' := .int) (by decide) (by decide)))
  have F3_27 : Exa Z h19 u1 "com/example/afterlog/afterlog/ListValue" := F2_17.wr W19
  obtain ⟨fs, hr, hrun, hended, hW, hsame⟩ := X19.leave (v := some e1x) (fun h => by rw [Bd.returns] at h; cases h)
  refine ⟨_, _, pre0 _ ?_, hrun, hended, _, _, rfl, ?_, ⟨_, rfl⟩, hW, hsame.mono (by decide) (by decide)⟩
  · show SF p e below s₁ (mkF m 0 #[rv u1, rv w2, .unset, .unset] []) _
    refine XS.aloadN X0.here hx rfl (hb hby d7_0) rfl rfl ?_
    show SF p e below s₁ (mkF m 1 #[rv u1, rv w2, .unset, .unset] [(.ref w2)]) _
    refine st1 _ ?_
    show SF p e below T1 (mkF m 4 #[rv u1, rv w2, .unset, .unset] [(.ref w2), (.ref w2)]) _
    refine Jvm.RoadKit.acmp (g := (mkF m 4 #[rv u1, rv w2, .unset, .unset] [(.ref w2), (.ref w2)])) X1 hx rfl rfl rfl (pc0 := 4) (pc' := 7) (same := true) rfl (hb hby d7_4) rfl (decide_eq_true rfl) (by decide) (by decide) ?_
    show SF p e below T1 (mkF m 7 #[rv u1, rv w2, .unset, .unset] []) _
    refine XS.aloadN X1.here hx rfl (hb hby d7_7) rfl rfl ?_
    show SF p e below T1 (mkF m 8 #[rv u1, rv w2, .unset, .unset] [(.ref u1)]) _
    refine st2 _ ?_
    show SF p e below T2 (mkF m 11 #[rv u1, rv w2, .unset, .unset] [(.int u2)]) _
    refine XS.goto X2.here hx rfl (pc0 := 11) (pc' := 24) rfl (hb hby d7_11) (by decide) (by decide) ?_
    show SF p e below T2 (mkF m 24 #[rv u1, rv w2, .unset, .unset] [(.int u2)]) _
    refine XS.istoreN X2.here hx rfl (hb hby d7_24) rfl (l' := #[rv u1, rv w2, iv u2, .unset]) rfl ?_
    show SF p e below T2 (mkF m 25 #[rv u1, rv w2, iv u2, .unset] []) _
    refine XS.aloadN X2.here hx rfl (hb hby d7_25) rfl rfl ?_
    show SF p e below T2 (mkF m 26 #[rv u1, rv w2, iv u2, .unset] [(.ref u1)]) _
    refine st3 _ ?_
    show SF p e below T3 (mkF m 29 #[rv u1, rv w2, iv u2, .unset] [(.ref u3)]) _
    refine XS.iloadN X3.here hx rfl (hb hby d7_29) rfl ?_
    show SF p e below T3 (mkF m 30 #[rv u1, rv w2, iv u2, .unset] [(.int u2), (.ref u3)]) _
    refine X3.aaload hx (j := u2) (v := e1x) (by rw [e3]; exact Ar4.1) (State.isArrayOf_alike hZ.alike Ar4.2.1) rfl Ar4.2.2 hin4 hat4 (g := (mkF m 30 #[rv u1, rv w2, iv u2, .unset] [(.int u2), (.ref u3)])) rfl rfl (hb hby d7_30) _ ?_
    show SF p e below T3 (mkF m 31 #[rv u1, rv w2, iv u2, .unset] [e1x]) _
    refine XS.astoreN X3.here hx rfl (hb hby d7_31) rfl rv4 (l' := #[rv u1, rv w2, iv u2, .val e1x]) (by rcases ref_cases rv4 with h | ⟨_, h⟩ <;> subst h <;> rfl) ?_
    show SF p e below T3 (mkF m 32 #[rv u1, rv w2, iv u2, .val e1x] []) _
    refine XS.aloadN X3.here hx rfl (hb hby d7_32) rfl rfl ?_
    show SF p e below T3 (mkF m 33 #[rv u1, rv w2, iv u2, .val e1x] [(.ref u1)]) _
    refine st5 _ ?_
    show SF p e below T5 (mkF m 36 #[rv u1, rv w2, iv u2, .val e1x] [(.ref u3)]) _
    refine XS.iloadN X5.here hx rfl (hb hby d7_36) rfl ?_
    show SF p e below T5 (mkF m 37 #[rv u1, rv w2, iv u2, .val e1x] [(.int u2), (.ref u3)]) _
    refine XS.aconstNull X5.here hx rfl (hb hby d7_37) ?_
    show SF p e below T5 (mkF m 38 #[rv u1, rv w2, iv u2, .val e1x] [.null, (.int u2), (.ref u3)]) _
    refine st7 _ ?_
    show SF p e below T7 (mkF m 39 #[rv u1, rv w2, iv u2, .val e1x] []) _
    refine XS.aloadN X7.here hx rfl (hb hby d7_39) rfl rfl ?_
    show SF p e below T7 (mkF m 40 #[rv u1, rv w2, iv u2, .val e1x] [(.ref w2)]) _
    refine st8 _ ?_
    show SF p e below T8 (mkF m 43 #[rv u1, rv w2, iv u2, .val e1x] [(.ref w2), (.ref w2)]) _
    refine Jvm.RoadKit.acmp (g := (mkF m 43 #[rv u1, rv w2, iv u2, .val e1x] [(.ref w2), (.ref w2)])) X8 hx rfl rfl rfl (pc0 := 43) (pc' := 46) (same := true) rfl (hb hby d7_43) rfl (decide_eq_true rfl) (by decide) (by decide) ?_
    show SF p e below T8 (mkF m 46 #[rv u1, rv w2, iv u2, .val e1x] []) _
    refine XS.aloadN X8.here hx rfl (hb hby d7_46) rfl rfl ?_
    show SF p e below T8 (mkF m 47 #[rv u1, rv w2, iv u2, .val e1x] [(.ref u1)]) _
    refine XS.aloadN X8.here hx rfl (hb hby d7_47) rfl rfl ?_
    show SF p e below T8 (mkF m 48 #[rv u1, rv w2, iv u2, .val e1x] [(.ref u1), (.ref u1)]) _
    refine XS.iconst X8.here hx rfl (hb hby d7_48) ?_
    show SF p e below T8 (mkF m 49 #[rv u1, rv w2, iv u2, .val e1x] [(.int 1), (.ref u1), (.ref u1)]) _
    refine st12.trans ?_
    show SF p e below T12 (mkF m 52 #[rv u1, rv w2, iv u2, .val e1x] [(.int e2x), (.ref u1)]) _
    refine st14 _ ?_
    show SF p e below T14 (mkF m 55 #[rv u1, rv w2, iv u2, .val e1x] []) _
    refine XS.aloadN X14.here hx rfl (hb hby d7_55) rfl rfl ?_
    show SF p e below T14 (mkF m 56 #[rv u1, rv w2, iv u2, .val e1x] [(.ref u1)]) _
    refine XS.dup X14.here hx rfl (hb hby d7_56) rfl rfl ?_
    show SF p e below T14 (mkF m 57 #[rv u1, rv w2, iv u2, .val e1x] [(.ref u1), (.ref u1)]) _
    refine st16 _ ?_
    show SF p e below T16 (mkF m 60 #[rv u1, rv w2, iv u2, .val e1x] [(.int 2), (.ref u1)]) _
    refine XS.iconst X16.here hx rfl (hb hby d7_60) ?_
    show SF p e below T16 (mkF m 61 #[rv u1, rv w2, iv u2, .val e1x] [(.int 1), (.int 2), (.ref u1)]) _
    refine XS.isub X16.here hx rfl (hb hby d7_61) rfl ?_
    show SF p e below T16 (mkF m 62 #[rv u1, rv w2, iv u2, .val e1x] [(.int ((2 : Int32) - (1 : Int32))), (.ref u1)]) _
    rw [show ((2 : Int32) - (1 : Int32)) = (1 : Int32) from by decide]
    show SF p e below T16 (mkF m 62 #[rv u1, rv w2, iv u2, .val e1x] [(.int 1), (.ref u1)]) _
    refine st19 _ ?_
    show SF p e below T19 (mkF m 65 #[rv u1, rv w2, iv u2, .val e1x] []) _
    refine XS.aloadN X19.here hx rfl (hb hby d7_65) rfl rv4 ?_
    show SF p e below T19 (mkF m 66 #[rv u1, rv w2, iv u2, .val e1x] [e1x]) _
    exact own_retR X19 hx Bd.returns rfl rv4 (hb hby d7_66) hr
  · show Q7_35 Z u1 w2 u2 u3 u4 h0 n0 _ T19.heap _
    rw [e19]
    exact ⟨e1x, e2x, rv4, bx_i9, rfl, N19, K19, F3_21, F3_24, F3_25, F3_26, F3_27, Fw19⟩
-- ListValueIsEmptyPinLaw.step 
def Q4_36 (Z : State) (u1 : Addr) (u2 : Int32) (u3 : Addr) (w2 : Addr) (u4 : Int32) (u5 : Addr) (u6 : ClassId) (h0 : Heap) (n0 : Nat) (v : Option Value) (h : Heap) (L : List Loc) : Prop := ∃ e1x : Int32, (¬ e1x < (0 : Int32) ∧ e1x < (8 : Int32)) ∧ v = some (.int 1) ∧ Fr n0 L ∧ Keep h0 h [u5, u1] ∧ Exa Z h u5 "[[B" ∧ Ary Z h u5 u6 (.array .byte) (8 : Int32) ∧ Exa Z h u1 "com/example/afterlog/afterlog/ListValue" ∧ Fld Z h u1 "com/example/afterlog/afterlog/ListValue" "head" "I" (.int e1x) ∧ Fld Z h u1 "com/example/afterlog/afterlog/ListValue" "elements" "[[B" (.ref u5) ∧ Fld Z h u1 "com/example/afterlog/afterlog/ListValue" "size" "I" (.int 1)
set_option maxRecDepth 65536 in
set_option maxHeartbeats 40000000 in
theorem rm4_36 (l : Launch) (Z : State) (a0 : Array Value) (hw : HW Z a0) (ws : List Jvm.Cond) (u1 : Addr) (u2 : Int32) (u3 : Addr) (w2 : Addr) (u4 : Int32) (u5 : Addr) (u6 : ClassId) (h0 : Heap) (n0 : Nat) (Z0 : n0 ≤ h0.size) (P1 : ¬ ((u2 &&& (2 : Int32)) = (0 : Int32))) (Sg2 : Sta Z Z.heap "com/example/afterlog/afterlog/ListValue$End" "HEAD" "Lcom/example/afterlog/afterlog/ListValue$End;" (.ref w2)) (P3 : Old Z n0 h0) (P4 : ¬ ((u2 &&& (1 : Int32)) = (0 : Int32))) (P5 : Exa Z h0 u1 "com/example/afterlog/afterlog/ListValue") (P6 : Fld Z h0 u1 "com/example/afterlog/afterlog/ListValue" "head" "I" (.int u4)) (P7 : Fld Z h0 u1 "com/example/afterlog/afterlog/ListValue" "elements" "[[B" (.ref u5)) (P8 : Ary Z h0 u5 u6 (.array .byte) (8 : Int32)) (P9 : ¬ u4 < (0 : Int32) ∧ u4 < (8 : Int32)) (P10 : Exa Z h0 u5 "[[B") (P11 : n0 ≤ u5) (P12 : u1 ≠ u5) (P13 : Fld Z h0 u1 "com/example/afterlog/afterlog/ListValue" "size" "I" (.int 2)) (P14 : n0 ≤ u1) :
    MF l Z (⟨"com/example/afterlog/afterlog/ListValueIsEmptyPinLaw", "step", "(Lcom/example/afterlog/afterlog/ListValue;II[B)I"⟩ : MethodName) (Jvm.Cond.code (⟨"com/example/afterlog/afterlog/ListValueIsEmptyPinLaw", "step", "(Lcom/example/afterlog/afterlog/ListValue;II[B)I"⟩ : MethodName) method_3_code 5 (some .int)) ws ({ frames := 2, cells := 0, slots := 0, locals := 30 } : Room) #[(.ref u1), (.int 2), (.int u2), (.ref u3)] h0 (Q4_36 Z u1 u2 u3 w2 u4 u5 u6 h0 n0) := by
  refine MetFree.of_bodySF (plainFor_of_name pn_1) hisR ?_
  intro p e s m args below meth c s₁ Bd hml0 hP hK
  obtain ⟨rfl, hZ, hh⟩ := hP
  have hx := Bd.exec
  have hby := Bd.bytes
  have hml : c.maxLocals = 5 := hml0
  have hown : s.vm.findClass "com/example/afterlog/afterlog/ListValueIsEmptyPinLaw" = some m.cls := findClass_of_methodNamed Bd.named
  have hnm := (name_of_methodNamed Bd.named Bd.method).1
  have X0 : Stand p l e ({ frames := 2, cells := 0, slots := 0, locals := 30 } : Room) s m #[(.ref u1), (.int 2), (.int u2), (.ref u3)] below meth c s₁ [] 0 0 := Stand.of_body Bd
  have e0 : s₁.heap = h0 := by rw [← hh, Bd.state]; rfl
  have N0 := Fr.nil n0
  have pre0 : ∀ t, SF p e below s₁ (mkF m 0 #[rv u1, iv 2, iv u2, rv u3, .unset] []) t → SF p e below s₁ (entryFrame m #[(.ref u1), (.int 2), (.int u2), (.ref u3)] 5) t := fun t k => castTop (ef_4 m u1 (2 : Int32) u2 u3) k
  obtain ⟨T1, X1, e1, st1⟩ := getS2 X0 hx hZ hown (host := "") (Or.inl (tw hw 42 rfl)) Via.refl e0 (Sg2.ext P3.2) (g := (mkF m 6 #[rv u1, iv 2, iv u2, rv u3, .unset] [])) rfl (hb hby d4_6)
  obtain ⟨cq2, kq2, q2a, q2b, q2c⟩ := isOf hZ e1 P5
  obtain ⟨_, _, ⟨T2, L2, k2x, n2⟩, -, X2, ⟨Lc2, hQ2, l2, y2, z2⟩, st2⟩ := X1.virtualBack hx (y := (⟨"com/example/afterlog/afterlog/ListValue", "pop", "(Lcom/example/afterlog/afterlog/ListValue$End;)[B"⟩ : MethodName)) (z := (⟨"com/example/afterlog/afterlog/ListValue", "pop", "(Lcom/example/afterlog/afterlog/ListValue$End;)[B"⟩ : MethodName)) hown (mvT hZ (tw hw 43 rfl)) (mvT hZ (tw hw 44 rfl)) (notFace_of_selects (args := #[]) (mvT hZ (tw hw 46 rfl))) (mvT hZ (tw hw 46 rfl)) (mvT hZ (tw hw 45 rfl)) (by decide) (backOf (W := 0) (rm7_35 l Z a0 hw [] u1 w2 u4 u5 u6 h0 n0 Z0 Sg2 P3 P6 P7 P8 P9 P10 P11 P5 P12 P13 P14) hZ (tw hw 47 rfl) (tw hw 3 rfl) (by decide) (by decide)) q2a q2c (g := (mkF m 30 #[rv u1, iv 2, iv u2, rv u3, rv w2] [(.ref w2), (.ref u1)])) rfl (by rw [hml]; rfl) (Steps.refl _) (argsL := [(.ref w2)]) (rest := []) (lenOf pd_5 rfl) rfl (by show 2 * 0 + _ ≤ _; exact Nat.le_of_eq rfl) (hb hby d4_30) (fun _ _ => ⟨rfl, e1, (by decide : 0 + 0 ≤ _), (by decide : 0 + 0 ≤ _)⟩)
  dsimp only [Pt.U, Pt.locs, Pt.cells, Pt.slots] at X2 l2 y2 z2 st2 hQ2
  subst l2 y2 z2
  obtain ⟨w8x, e1x, bx_vx10, bx_i11, rfl, N2q, K2c, Fq2_0, Fq2_1, Fq2_2, Fq2_3, Fq2_4, Fq2_5⟩ := hQ2
  have K2 : Keep h0 T2.heap [u5, u1] := (Keep.refl h0 [u5, u1]).trans K2c (allS (Or.inl (List.mem_of_getElem? (i := 0) rfl)) (allS (Or.inl (List.mem_of_getElem? (i := 1) rfl)) all0))
  have N2 := Fr.app N0 N2q
  obtain ⟨fs, hr, hrun, hended, hW, hsame⟩ := X2.leave (v := some (.int 1)) (fun h => by rw [Bd.returns] at h; cases h)
  refine ⟨_, _, pre0 _ ?_, hrun, hended, _, _, rfl, ?_, ⟨_, rfl⟩, hW, hsame.mono (by decide) (by decide)⟩
  · show SF p e below s₁ (mkF m 0 #[rv u1, iv 2, iv u2, rv u3, .unset] []) _
    refine XS.iloadN X0.here hx rfl (hb hby d4_0) rfl ?_
    show SF p e below s₁ (mkF m 1 #[rv u1, iv 2, iv u2, rv u3, .unset] [(.int u2)]) _
    refine XS.iconst X0.here hx rfl (hb hby d4_1) ?_
    show SF p e below s₁ (mkF m 2 #[rv u1, iv 2, iv u2, rv u3, .unset] [(.int 2), (.int u2)]) _
    refine XS.iand X0.here hx rfl (hb hby d4_2) rfl ?_
    show SF p e below s₁ (mkF m 3 #[rv u1, iv 2, iv u2, rv u3, .unset] [(.int (u2 &&& (2 : Int32)))]) _
    refine XS.ifNo X0.here hx rfl (hb hby d4_3) rfl ((if0 _ _).trans (feq P1).1) ?_
    show SF p e below s₁ (mkF m 6 #[rv u1, iv 2, iv u2, rv u3, .unset] []) _
    refine st1 _ ?_
    show SF p e below T1 (mkF m 9 #[rv u1, iv 2, iv u2, rv u3, .unset] [(.ref w2)]) _
    refine XS.goto X1.here hx rfl (pc0 := 9) (pc' := 15) rfl (hb hby d4_9) (by decide) (by decide) ?_
    show SF p e below T1 (mkF m 15 #[rv u1, iv 2, iv u2, rv u3, .unset] [(.ref w2)]) _
    refine XS.astore X1.here hx rfl (hb hby d4_15) rfl rfl (l' := #[rv u1, iv 2, iv u2, rv u3, rv w2]) rfl ?_
    show SF p e below T1 (mkF m 17 #[rv u1, iv 2, iv u2, rv u3, rv w2] []) _
    refine XS.iloadN X1.here hx rfl (hb hby d4_17) rfl ?_
    show SF p e below T1 (mkF m 18 #[rv u1, iv 2, iv u2, rv u3, rv w2] [(.int u2)]) _
    refine XS.iconst X1.here hx rfl (hb hby d4_18) ?_
    show SF p e below T1 (mkF m 19 #[rv u1, iv 2, iv u2, rv u3, rv w2] [(.int 1), (.int u2)]) _
    refine XS.iand X1.here hx rfl (hb hby d4_19) rfl ?_
    show SF p e below T1 (mkF m 20 #[rv u1, iv 2, iv u2, rv u3, rv w2] [(.int (u2 &&& (1 : Int32)))]) _
    refine XS.ifNo X1.here hx rfl (hb hby d4_20) rfl ((if0 _ _).trans (feq P4).1) ?_
    show SF p e below T1 (mkF m 23 #[rv u1, iv 2, iv u2, rv u3, rv w2] []) _
    refine XS.iloadN X1.here hx rfl (hb hby d4_23) rfl ?_
    show SF p e below T1 (mkF m 24 #[rv u1, iv 2, iv u2, rv u3, rv w2] [(.int 2)]) _
    refine XS.ifNo X1.here hx rfl (hb hby d4_24) rfl ((if0 _ _).trans (tlt (by decide : (0 : Int32) < (2 : Int32))).2.2.2) ?_
    show SF p e below T1 (mkF m 27 #[rv u1, iv 2, iv u2, rv u3, rv w2] []) _
    refine XS.aloadN X1.here hx rfl (hb hby d4_27) rfl rfl ?_
    show SF p e below T1 (mkF m 28 #[rv u1, iv 2, iv u2, rv u3, rv w2] [(.ref u1)]) _
    refine XS.aload X1.here hx rfl (hb hby d4_28) rfl rfl ?_
    show SF p e below T1 (mkF m 30 #[rv u1, iv 2, iv u2, rv u3, rv w2] [(.ref w2), (.ref u1)]) _
    refine st2.trans ?_
    show SF p e below T2 (mkF m 33 #[rv u1, iv 2, iv u2, rv u3, rv w2] [w8x]) _
    refine XS.pop X2.here hx rfl (hb hby d4_33) rfl (by rcases ref_cases bx_vx10 with h | ⟨_, h⟩ <;> subst h <;> rfl) ?_
    show SF p e below T2 (mkF m 34 #[rv u1, iv 2, iv u2, rv u3, rv w2] []) _
    refine XS.iloadN X2.here hx rfl (hb hby d4_34) rfl ?_
    show SF p e below T2 (mkF m 35 #[rv u1, iv 2, iv u2, rv u3, rv w2] [(.int 2)]) _
    refine XS.iconst X2.here hx rfl (hb hby d4_35) ?_
    show SF p e below T2 (mkF m 36 #[rv u1, iv 2, iv u2, rv u3, rv w2] [(.int 1), (.int 2)]) _
    refine XS.isub X2.here hx rfl (hb hby d4_36) rfl ?_
    show SF p e below T2 (mkF m 37 #[rv u1, iv 2, iv u2, rv u3, rv w2] [(.int ((2 : Int32) - (1 : Int32)))]) _
    rw [show ((2 : Int32) - (1 : Int32)) = (1 : Int32) from by decide]
    show SF p e below T2 (mkF m 37 #[rv u1, iv 2, iv u2, rv u3, rv w2] [(.int 1)]) _
    exact retI X2 hx Bd.returns (hb hby d4_37) hr
  · show Q4_36 Z u1 u2 u3 w2 u4 u5 u6 h0 n0 _ T2.heap _
    exact ⟨e1x, bx_i11, rfl, N2, K2, Fq2_1, Fq2_0, Fq2_4, Fq2_2, Fq2_3, Fq2_5⟩
set_option maxRecDepth 65536 in
set_option maxHeartbeats 400000000 in
theorem pc_2 {p : Program} {l : Launch} {e : Env} {s : State} {m : MethodId} {below : List Frame} {meth : Method} {c : Code} {T0 : State} {locs : List Loc} {Z : State} {a0 : Array Value} {h0 : Heap} {n0 : Nat} {p0s : Int32} {p1s : Int32} {p2s : Int32} {p3s : Int32} {w1 : Addr} {w2 : Addr} {o1 : Addr} {o2 : Addr} {kk1 : ClassId} {o3 : Addr} {kk2 : ClassId} {ii1 : Int32} (X0 : Stand p l e room_1 s m #[(.int p0s), (.int p1s), (.int p2s), (.int p3s)] below meth c T0 locs 3 12) (hx : p.tables.exec = Jvm.exec) (hZ : Z.Warmed39 s.vm) (hw : HW Z a0) (hby : c.code = code) (hml : c.maxLocals = 8) (hown : s.vm.findClass "com/example/afterlog/afterlog/ListValueIsEmptyPinLaw" = some m.cls) (hre : meth.sig.returnType = some .boolean) (hlk : meth.locks = false) (e0 : T0.heap = h0) (N0 : Fr n0 locs) (Z0 : n0 ≤ h0.size) (O0 : Old Z n0 h0) (Sg0 : Sta Z Z.heap "com/example/afterlog/afterlog/ListValue$End" "TAIL" "Lcom/example/afterlog/afterlog/ListValue$End;" (.ref w1)) (E_w1 : Exa Z Z.heap w1 "com/example/afterlog/afterlog/ListValue$End") (Sg2 : Sta Z Z.heap "com/example/afterlog/afterlog/ListValue$End" "HEAD" "Lcom/example/afterlog/afterlog/ListValue$End;" (.ref w2)) (E_w2 : Exa Z Z.heap w2 "com/example/afterlog/afterlog/ListValue$End") (F_w1_ordinal : Fld Z Z.heap w1 "java/lang/Enum" "ordinal" "I" (.int 1)) (F_w2_ordinal : Fld Z Z.heap w2 "java/lang/Enum" "ordinal" "I" (.int 0)) (P1 : Arv Z h0 o1 kk1 .byte (1 : Int32) [(.int (nar .byte ((p0s &&& (127 : Int32)).toInt8.toInt32)))] (.int (0 : Int32))) (P2 : Exa Z h0 o1 "[B") (P3 : Exa Z h0 o2 "com/example/afterlog/afterlog/ListValue") (P4 : Fld Z h0 o2 "com/example/afterlog/afterlog/ListValue" "elements" "[[B" (.ref o3)) (P5 : Fld Z h0 o2 "com/example/afterlog/afterlog/ListValue" "head" "I" (.int ii1)) (P6 : Fld Z h0 o2 "com/example/afterlog/afterlog/ListValue" "size" "I" (.int 2)) (P7 : Ary Z h0 o3 kk2 (.array .byte) (8 : Int32)) (P8 : OvrA Z kk2 .byte "[B") (P9 : Exa Z h0 o3 "[[B") (P10 : ¬ ii1 < (0 : Int32) ∧ ii1 < (8 : Int32)) (P11 : n0 ≤ o1) (P12 : o1 < h0.size) (P13 : n0 ≤ o2) (P14 : o2 < h0.size) (P15 : n0 ≤ o3) (P16 : o3 < h0.size) (P17 : o1 ≠ o2) (P18 : o1 ≠ o3) (P19 : o2 ≠ o3) :
    Fine p e below s n0 (T0.setTop (mkF m 117 #[iv p0s, iv p1s, iv p2s, iv p3s, rv o1, rv o2, iv 1, iv 2] [])) := by
  have pre0 : ∀ t, SF p e below T0 (mkF m 124 #[iv p0s, iv p1s, iv p2s, iv p3s, rv o1, rv o2, iv 1, iv 2] [(.ref o1), (.int p2s), (.int 2), (.ref o2)]) t → SF p e below T0 (mkF m 117 #[iv p0s, iv p1s, iv p2s, iv p3s, rv o1, rv o2, iv 1, iv 2] []) t := fun t k => by
    show SF p e below T0 (mkF m 117 #[iv p0s, iv p1s, iv p2s, iv p3s, rv o1, rv o2, iv 1, iv 2] []) _
    refine XS.aload X0.here hx rfl (hb hby at_117) rfl rfl ?_
    show SF p e below T0 (mkF m 119 #[iv p0s, iv p1s, iv p2s, iv p3s, rv o1, rv o2, iv 1, iv 2] [(.ref o2)]) _
    refine XS.iload X0.here hx rfl (hb hby at_119) rfl ?_
    show SF p e below T0 (mkF m 121 #[iv p0s, iv p1s, iv p2s, iv p3s, rv o1, rv o2, iv 1, iv 2] [(.int 2), (.ref o2)]) _
    refine XS.iloadN X0.here hx rfl (hb hby at_121) rfl ?_
    show SF p e below T0 (mkF m 122 #[iv p0s, iv p1s, iv p2s, iv p3s, rv o1, rv o2, iv 1, iv 2] [(.int p2s), (.int 2), (.ref o2)]) _
    refine XS.aload X0.here hx rfl (hb hby at_122) rfl rfl ?_
    exact k
  by_cases hc1 : (p2s &&& (2 : Int32)) = (0 : Int32)
  · by_cases hc2 : (p2s &&& (1 : Int32)) = (0 : Int32)
    · obtain ⟨_, _, ⟨T1, L1, k1x, n1⟩, -, X1, ⟨Lc1, hQ1, l1, y1, z1⟩, st1⟩ := Jvm.LawKit.callS X0 hx (y := (⟨"com/example/afterlog/afterlog/ListValueIsEmptyPinLaw", "step", "(Lcom/example/afterlog/afterlog/ListValue;II[B)I"⟩ : MethodName)) hown (mvT hZ (tw hw 21 rfl)) (mvT hZ (tw hw 22 rfl)) (mvT hZ (tw hw 23 rfl)) (mvT hZ (tw hw 24 rfl)) (by decide) (backOf (W := 0) (rm4_12 l Z a0 hw [] o2 p2s o1 w1 o3 kk2 w2 ii1 h0 n0 Z0 hc1 Sg0 O0 hc2 P3 P6 P4 P7 Sg2 F_w1_ordinal F_w2_ordinal P5 P10 P9 P8 P2 P15 P19 P13) hZ (tw hw 24 rfl) (tw hw 23 rfl) (by decide) (by decide)) (g := (mkF m 124 #[iv p0s, iv p1s, iv p2s, iv p3s, rv o1, rv o2, iv 1, iv 2] [(.ref o1), (.int p2s), (.int 2), (.ref o2)])) rfl (by rw [hml]; rfl) (argsL := [(.ref o2), (.int 2), (.int p2s), (.ref o1)]) (rest := []) (lenOf pd_4 rfl) rfl (by show 2 * 0 + _ ≤ _; exact Nat.le_of_eq rfl) (hb hby at_124) (fun _ _ => ⟨rfl, e0, (by decide : 3 + 0 ≤ _), (by decide : 12 + 0 ≤ _)⟩)
      dsimp only [Pt.U, Pt.locs, Pt.cells, Pt.slots] at X1 l1 y1 z1 st1 hQ1
      subst l1 y1 z1
      obtain ⟨rfl, N1q, K1c, Fq1_0, Fq1_1, Fq1_2, Fq1_3, Fq1_4, Fq1_5⟩ := hQ1
      have N1 := Fr.app N0 N1q
      have Z1 : n0 ≤ T1.heap.size := Nat.le_trans Z0 K1c.1
      obtain ⟨cq2, kq2, q2a, q2b, q2c⟩ := isOf hZ rfl Fq1_2
      obtain ⟨_, _, ⟨T2, L2, k2x, n2⟩, -, X2, ⟨Lc2, hQ2, l2, y2, z2⟩, st2⟩ := X1.virtualBack hx (y := (⟨"com/example/afterlog/afterlog/ListValue", "isEmpty", "()Z"⟩ : MethodName)) (z := (⟨"com/example/afterlog/afterlog/ListValue", "isEmpty", "()Z"⟩ : MethodName)) hown (mvT hZ (tw hw 14 rfl)) (mvT hZ (tw hw 15 rfl)) (notFace_of_selects (args := #[]) (mvT hZ (tw hw 17 rfl))) (mvT hZ (tw hw 17 rfl)) (mvT hZ (tw hw 16 rfl)) (by decide) (backOf (W := 0) (rm3_13 l Z a0 hw [] o2 T1.heap n0 Z1 Fq1_3) hZ (tw hw 18 rfl) (tw hw 3 rfl) (by decide) (by decide)) q2a q2c (g := (mkF m 136 #[iv p0s, iv p1s, iv p2s, iv p3s, rv o1, rv o2, iv 1, iv 3] [(.ref o2)])) rfl (by rw [hml]; rfl) (Steps.refl _) (argsL := []) (rest := []) (lenOf pd_1 rfl) rfl (by show 2 * 0 + _ ≤ _; exact Nat.le_of_eq rfl) (hb hby at_136) (fun _ _ => ⟨rfl, rfl, (by decide : 3 + 0 ≤ _), (by decide : 12 + 0 ≤ _)⟩)
      dsimp only [Pt.U, Pt.locs, Pt.cells, Pt.slots] at X2 l2 y2 z2 st2 hQ2
      subst l2 y2 z2
      obtain ⟨rfl, N2q, e2⟩ := hQ2
      have N2 := Fr.app N1 N2q
      have F1_3 : Arv Z T1.heap o1 kk1 .byte (1 : Int32) [(.int (nar .byte ((p0s &&& (127 : Int32)).toInt8.toInt32)))] (.int (0 : Int32)) := P1.keep K1c (ninS P18 (ninS P17 nin0))
      have F1_4 : Exa Z T1.heap o1 "[B" := P2.keep K1c
      have lt_o1_1 : o1 < T1.heap.size := Nat.lt_of_lt_of_le P12 K1c.1
      have lt_o2_1 : o2 < T1.heap.size := Nat.lt_of_lt_of_le P14 K1c.1
      have lt_o3_1 : o3 < T1.heap.size := Nat.lt_of_lt_of_le P16 K1c.1
      have O1 : Old Z n0 T1.heap := O0.keep K1c (allS P15 (allS P13 all0))
      refine Fine.pre (fun t k => pre0 _ (?_)) (pc_3 (o1 := o1) (o2 := o2) (kk1 := kk1) (o3 := o3) (kk2 := kk2) (ii1 := ii1) X2 hx hZ hw hby hml hown hre hlk e2 N2 Z1 O1 Sg0 E_w1 Sg2 E_w2 F_w1_ordinal F_w2_ordinal F1_3 F1_4 Fq1_2 Fq1_4 Fq1_5 Fq1_3 Fq1_1 P8 Fq1_0 P10 P11 lt_o1_1 P13 lt_o2_1 P15 lt_o3_1 P17 P18 P19)
      show SF p e below T0 (mkF m 124 #[iv p0s, iv p1s, iv p2s, iv p3s, rv o1, rv o2, iv 1, iv 2] [(.ref o1), (.int p2s), (.int 2), (.ref o2)]) _
      refine st1 _ ?_
      show SF p e below T1 (mkF m 127 #[iv p0s, iv p1s, iv p2s, iv p3s, rv o1, rv o2, iv 1, iv 2] [(.int 3)]) _
      refine XS.istore X1.here hx rfl (hb hby at_127) rfl (l' := #[iv p0s, iv p1s, iv p2s, iv p3s, rv o1, rv o2, iv 1, iv 3]) rfl ?_
      show SF p e below T1 (mkF m 129 #[iv p0s, iv p1s, iv p2s, iv p3s, rv o1, rv o2, iv 1, iv 3] []) _
      refine XS.iload X1.here hx rfl (hb hby at_129) rfl ?_
      show SF p e below T1 (mkF m 131 #[iv p0s, iv p1s, iv p2s, iv p3s, rv o1, rv o2, iv 1, iv 3] [(.int 1)]) _
      refine XS.ifNo X1.here hx rfl (hb hby at_131) rfl ((if0 _ _).trans (feq (by decide : ¬ ((1 : Int32) = (0 : Int32)))).1) ?_
      show SF p e below T1 (mkF m 134 #[iv p0s, iv p1s, iv p2s, iv p3s, rv o1, rv o2, iv 1, iv 3] []) _
      refine XS.aload X1.here hx rfl (hb hby at_134) rfl rfl ?_
      show SF p e below T1 (mkF m 136 #[iv p0s, iv p1s, iv p2s, iv p3s, rv o1, rv o2, iv 1, iv 3] [(.ref o2)]) _
      refine st2.trans ?_
      show SF p e below T2 (mkF m 139 #[iv p0s, iv p1s, iv p2s, iv p3s, rv o1, rv o2, iv 1, iv 3] [(.int 0)]) _
      refine XS.iload X2.here hx rfl (hb hby at_139) rfl ?_
      show SF p e below T2 (mkF m 141 #[iv p0s, iv p1s, iv p2s, iv p3s, rv o1, rv o2, iv 1, iv 3] [(.int 3), (.int 0)]) _
      refine XS.ifYes X2.here hx rfl (pc0 := 141) (pc' := 148) rfl (hb hby at_141) rfl ((if0 _ _).trans (feq (by decide : ¬ ((3 : Int32) = (0 : Int32)))).2) (by decide) (by decide) ?_
      show SF p e below T2 (mkF m 148 #[iv p0s, iv p1s, iv p2s, iv p3s, rv o1, rv o2, iv 1, iv 3] [(.int 0)]) _
      refine XS.iconst X2.here hx rfl (hb hby at_148) ?_
      show SF p e below T2 (mkF m 149 #[iv p0s, iv p1s, iv p2s, iv p3s, rv o1, rv o2, iv 1, iv 3] [(.int 0), (.int 0)]) _
      refine XS.icmpNo X2.here hx rfl (hb hby at_149) rfl (teq (by decide : (0 : Int32) = (0 : Int32))).2 ?_
      show SF p e below T2 (mkF m 152 #[iv p0s, iv p1s, iv p2s, iv p3s, rv o1, rv o2, iv 1, iv 3] []) _
      refine XS.iconst X2.here hx rfl (hb hby at_152) ?_
      show SF p e below T2 (mkF m 153 #[iv p0s, iv p1s, iv p2s, iv p3s, rv o1, rv o2, iv 1, iv 3] [(.int 1)]) _
      refine XS.goto X2.here hx rfl (pc0 := 153) (pc' := 157) rfl (hb hby at_153) (by decide) (by decide) ?_
      show SF p e below T2 (mkF m 157 #[iv p0s, iv p1s, iv p2s, iv p3s, rv o1, rv o2, iv 1, iv 3] [(.int 1)]) _
      refine XS.istore X2.here hx rfl (hb hby at_157) rfl (l' := #[iv p0s, iv p1s, iv p2s, iv p3s, rv o1, rv o2, iv 1, iv 3]) rfl ?_
      exact k
    · obtain ⟨_, _, ⟨T1, L1, k1x, n1⟩, -, X1, ⟨Lc1, hQ1, l1, y1, z1⟩, st1⟩ := Jvm.LawKit.callS X0 hx (y := (⟨"com/example/afterlog/afterlog/ListValueIsEmptyPinLaw", "step", "(Lcom/example/afterlog/afterlog/ListValue;II[B)I"⟩ : MethodName)) hown (mvT hZ (tw hw 21 rfl)) (mvT hZ (tw hw 22 rfl)) (mvT hZ (tw hw 23 rfl)) (mvT hZ (tw hw 24 rfl)) (by decide) (backOf (W := 0) (rm4_24 l Z a0 hw [] o2 p2s o1 w1 w2 o3 ii1 kk2 h0 n0 Z0 hc1 Sg0 O0 hc2 P3 Sg2 F_w1_ordinal F_w2_ordinal P6 P4 P5 P7 P10 P9 P15 P19 P13) hZ (tw hw 24 rfl) (tw hw 23 rfl) (by decide) (by decide)) (g := (mkF m 124 #[iv p0s, iv p1s, iv p2s, iv p3s, rv o1, rv o2, iv 1, iv 2] [(.ref o1), (.int p2s), (.int 2), (.ref o2)])) rfl (by rw [hml]; rfl) (argsL := [(.ref o2), (.int 2), (.int p2s), (.ref o1)]) (rest := []) (lenOf pd_4 rfl) rfl (by show 2 * 0 + _ ≤ _; exact Nat.le_of_eq rfl) (hb hby at_124) (fun _ _ => ⟨rfl, e0, (by decide : 3 + 0 ≤ _), (by decide : 12 + 0 ≤ _)⟩)
      dsimp only [Pt.U, Pt.locs, Pt.cells, Pt.slots] at X1 l1 y1 z1 st1 hQ1
      subst l1 y1 z1
      obtain ⟨rfl, N1q, K1c, Fq1_0, Fq1_1, Fq1_2, Fq1_3, Fq1_4, Fq1_5⟩ := hQ1
      have N1 := Fr.app N0 N1q
      have Z1 : n0 ≤ T1.heap.size := Nat.le_trans Z0 K1c.1
      obtain ⟨cq2, kq2, q2a, q2b, q2c⟩ := isOf hZ rfl Fq1_2
      obtain ⟨_, _, ⟨T2, L2, k2x, n2⟩, -, X2, ⟨Lc2, hQ2, l2, y2, z2⟩, st2⟩ := X1.virtualBack hx (y := (⟨"com/example/afterlog/afterlog/ListValue", "isEmpty", "()Z"⟩ : MethodName)) (z := (⟨"com/example/afterlog/afterlog/ListValue", "isEmpty", "()Z"⟩ : MethodName)) hown (mvT hZ (tw hw 14 rfl)) (mvT hZ (tw hw 15 rfl)) (notFace_of_selects (args := #[]) (mvT hZ (tw hw 17 rfl))) (mvT hZ (tw hw 17 rfl)) (mvT hZ (tw hw 16 rfl)) (by decide) (backOf (W := 0) (rm3_7 l Z a0 hw [] o2 T1.heap n0 Z1 Fq1_3) hZ (tw hw 18 rfl) (tw hw 3 rfl) (by decide) (by decide)) q2a q2c (g := (mkF m 136 #[iv p0s, iv p1s, iv p2s, iv p3s, rv o1, rv o2, iv 1, iv 1] [(.ref o2)])) rfl (by rw [hml]; rfl) (Steps.refl _) (argsL := []) (rest := []) (lenOf pd_1 rfl) rfl (by show 2 * 0 + _ ≤ _; exact Nat.le_of_eq rfl) (hb hby at_136) (fun _ _ => ⟨rfl, rfl, (by decide : 3 + 0 ≤ _), (by decide : 12 + 0 ≤ _)⟩)
      dsimp only [Pt.U, Pt.locs, Pt.cells, Pt.slots] at X2 l2 y2 z2 st2 hQ2
      subst l2 y2 z2
      obtain ⟨rfl, N2q, e2⟩ := hQ2
      have N2 := Fr.app N1 N2q
      have F1_3 : Arv Z T1.heap o1 kk1 .byte (1 : Int32) [(.int (nar .byte ((p0s &&& (127 : Int32)).toInt8.toInt32)))] (.int (0 : Int32)) := P1.keep K1c (ninS P18 (ninS P17 nin0))
      have F1_4 : Exa Z T1.heap o1 "[B" := P2.keep K1c
      have lt_o1_1 : o1 < T1.heap.size := Nat.lt_of_lt_of_le P12 K1c.1
      have lt_o2_1 : o2 < T1.heap.size := Nat.lt_of_lt_of_le P14 K1c.1
      have lt_o3_1 : o3 < T1.heap.size := Nat.lt_of_lt_of_le P16 K1c.1
      have O1 : Old Z n0 T1.heap := O0.keep K1c (allS P15 (allS P13 all0))
      refine Fine.pre (fun t k => pre0 _ (?_)) (pc_4 (o1 := o1) (o2 := o2) (kk1 := kk1) (o3 := o3) (kk2 := kk2) (ii1 := ii1) X2 hx hZ hw hby hml hown hre hlk e2 N2 Z1 O1 Sg0 E_w1 Sg2 E_w2 F_w1_ordinal F_w2_ordinal F1_3 F1_4 Fq1_2 Fq1_4 Fq1_5 Fq1_3 Fq1_1 P8 Fq1_0 P10 P11 lt_o1_1 P13 lt_o2_1 P15 lt_o3_1 P17 P18 P19)
      show SF p e below T0 (mkF m 124 #[iv p0s, iv p1s, iv p2s, iv p3s, rv o1, rv o2, iv 1, iv 2] [(.ref o1), (.int p2s), (.int 2), (.ref o2)]) _
      refine st1 _ ?_
      show SF p e below T1 (mkF m 127 #[iv p0s, iv p1s, iv p2s, iv p3s, rv o1, rv o2, iv 1, iv 2] [(.int 1)]) _
      refine XS.istore X1.here hx rfl (hb hby at_127) rfl (l' := #[iv p0s, iv p1s, iv p2s, iv p3s, rv o1, rv o2, iv 1, iv 1]) rfl ?_
      show SF p e below T1 (mkF m 129 #[iv p0s, iv p1s, iv p2s, iv p3s, rv o1, rv o2, iv 1, iv 1] []) _
      refine XS.iload X1.here hx rfl (hb hby at_129) rfl ?_
      show SF p e below T1 (mkF m 131 #[iv p0s, iv p1s, iv p2s, iv p3s, rv o1, rv o2, iv 1, iv 1] [(.int 1)]) _
      refine XS.ifNo X1.here hx rfl (hb hby at_131) rfl ((if0 _ _).trans (feq (by decide : ¬ ((1 : Int32) = (0 : Int32)))).1) ?_
      show SF p e below T1 (mkF m 134 #[iv p0s, iv p1s, iv p2s, iv p3s, rv o1, rv o2, iv 1, iv 1] []) _
      refine XS.aload X1.here hx rfl (hb hby at_134) rfl rfl ?_
      show SF p e below T1 (mkF m 136 #[iv p0s, iv p1s, iv p2s, iv p3s, rv o1, rv o2, iv 1, iv 1] [(.ref o2)]) _
      refine st2.trans ?_
      show SF p e below T2 (mkF m 139 #[iv p0s, iv p1s, iv p2s, iv p3s, rv o1, rv o2, iv 1, iv 1] [(.int 0)]) _
      refine XS.iload X2.here hx rfl (hb hby at_139) rfl ?_
      show SF p e below T2 (mkF m 141 #[iv p0s, iv p1s, iv p2s, iv p3s, rv o1, rv o2, iv 1, iv 1] [(.int 1), (.int 0)]) _
      refine XS.ifYes X2.here hx rfl (pc0 := 141) (pc' := 148) rfl (hb hby at_141) rfl ((if0 _ _).trans (feq (by decide : ¬ ((1 : Int32) = (0 : Int32)))).2) (by decide) (by decide) ?_
      show SF p e below T2 (mkF m 148 #[iv p0s, iv p1s, iv p2s, iv p3s, rv o1, rv o2, iv 1, iv 1] [(.int 0)]) _
      refine XS.iconst X2.here hx rfl (hb hby at_148) ?_
      show SF p e below T2 (mkF m 149 #[iv p0s, iv p1s, iv p2s, iv p3s, rv o1, rv o2, iv 1, iv 1] [(.int 0), (.int 0)]) _
      refine XS.icmpNo X2.here hx rfl (hb hby at_149) rfl (teq (by decide : (0 : Int32) = (0 : Int32))).2 ?_
      show SF p e below T2 (mkF m 152 #[iv p0s, iv p1s, iv p2s, iv p3s, rv o1, rv o2, iv 1, iv 1] []) _
      refine XS.iconst X2.here hx rfl (hb hby at_152) ?_
      show SF p e below T2 (mkF m 153 #[iv p0s, iv p1s, iv p2s, iv p3s, rv o1, rv o2, iv 1, iv 1] [(.int 1)]) _
      refine XS.goto X2.here hx rfl (pc0 := 153) (pc' := 157) rfl (hb hby at_153) (by decide) (by decide) ?_
      show SF p e below T2 (mkF m 157 #[iv p0s, iv p1s, iv p2s, iv p3s, rv o1, rv o2, iv 1, iv 1] [(.int 1)]) _
      refine XS.istore X2.here hx rfl (hb hby at_157) rfl (l' := #[iv p0s, iv p1s, iv p2s, iv p3s, rv o1, rv o2, iv 1, iv 1]) rfl ?_
      exact k
  · by_cases hc2 : (p2s &&& (1 : Int32)) = (0 : Int32)
    · obtain ⟨_, _, ⟨T1, L1, k1x, n1⟩, -, X1, ⟨Lc1, hQ1, l1, y1, z1⟩, st1⟩ := Jvm.LawKit.callS X0 hx (y := (⟨"com/example/afterlog/afterlog/ListValueIsEmptyPinLaw", "step", "(Lcom/example/afterlog/afterlog/ListValue;II[B)I"⟩ : MethodName)) hown (mvT hZ (tw hw 21 rfl)) (mvT hZ (tw hw 22 rfl)) (mvT hZ (tw hw 23 rfl)) (mvT hZ (tw hw 24 rfl)) (by decide) (backOf (W := 0) (rm4_34 l Z a0 hw [] o2 p2s o1 w2 o3 kk2 ii1 h0 n0 Z0 hc1 Sg2 O0 hc2 P3 P6 P4 P7 P5 P10 P13 P9 (Ne.symm P19) P8 P2 P15) hZ (tw hw 24 rfl) (tw hw 23 rfl) (by decide) (by decide)) (g := (mkF m 124 #[iv p0s, iv p1s, iv p2s, iv p3s, rv o1, rv o2, iv 1, iv 2] [(.ref o1), (.int p2s), (.int 2), (.ref o2)])) rfl (by rw [hml]; rfl) (argsL := [(.ref o2), (.int 2), (.int p2s), (.ref o1)]) (rest := []) (lenOf pd_4 rfl) rfl (by show 2 * 0 + _ ≤ _; exact Nat.le_of_eq rfl) (hb hby at_124) (fun _ _ => ⟨rfl, e0, (by decide : 3 + 0 ≤ _), (by decide : 12 + 0 ≤ _)⟩)
      dsimp only [Pt.U, Pt.locs, Pt.cells, Pt.slots] at X1 l1 y1 z1 st1 hQ1
      subst l1 y1 z1
      obtain ⟨i10, bx_i10, rfl, N1q, K1c, Fq1_0, Fq1_1, Fq1_2, Fq1_3, Fq1_4, Fq1_5⟩ := hQ1
      have N1 := Fr.app N0 N1q
      have Z1 : n0 ≤ T1.heap.size := Nat.le_trans Z0 K1c.1
      obtain ⟨cq2, kq2, q2a, q2b, q2c⟩ := isOf hZ rfl Fq1_0
      obtain ⟨_, _, ⟨T2, L2, k2x, n2⟩, -, X2, ⟨Lc2, hQ2, l2, y2, z2⟩, st2⟩ := X1.virtualBack hx (y := (⟨"com/example/afterlog/afterlog/ListValue", "isEmpty", "()Z"⟩ : MethodName)) (z := (⟨"com/example/afterlog/afterlog/ListValue", "isEmpty", "()Z"⟩ : MethodName)) hown (mvT hZ (tw hw 14 rfl)) (mvT hZ (tw hw 15 rfl)) (notFace_of_selects (args := #[]) (mvT hZ (tw hw 17 rfl))) (mvT hZ (tw hw 17 rfl)) (mvT hZ (tw hw 16 rfl)) (by decide) (backOf (W := 0) (rm3_13 l Z a0 hw [] o2 T1.heap n0 Z1 Fq1_1) hZ (tw hw 18 rfl) (tw hw 3 rfl) (by decide) (by decide)) q2a q2c (g := (mkF m 136 #[iv p0s, iv p1s, iv p2s, iv p3s, rv o1, rv o2, iv 1, iv 3] [(.ref o2)])) rfl (by rw [hml]; rfl) (Steps.refl _) (argsL := []) (rest := []) (lenOf pd_1 rfl) rfl (by show 2 * 0 + _ ≤ _; exact Nat.le_of_eq rfl) (hb hby at_136) (fun _ _ => ⟨rfl, rfl, (by decide : 3 + 0 ≤ _), (by decide : 12 + 0 ≤ _)⟩)
      dsimp only [Pt.U, Pt.locs, Pt.cells, Pt.slots] at X2 l2 y2 z2 st2 hQ2
      subst l2 y2 z2
      obtain ⟨rfl, N2q, e2⟩ := hQ2
      have N2 := Fr.app N1 N2q
      have F1_3 : Arv Z T1.heap o1 kk1 .byte (1 : Int32) [(.int (nar .byte ((p0s &&& (127 : Int32)).toInt8.toInt32)))] (.int (0 : Int32)) := P1.keep K1c (ninS P17 (ninS P18 nin0))
      have F1_4 : Exa Z T1.heap o1 "[B" := P2.keep K1c
      have lt_o1_1 : o1 < T1.heap.size := Nat.lt_of_lt_of_le P12 K1c.1
      have lt_o2_1 : o2 < T1.heap.size := Nat.lt_of_lt_of_le P14 K1c.1
      have lt_o3_1 : o3 < T1.heap.size := Nat.lt_of_lt_of_le P16 K1c.1
      have O1 : Old Z n0 T1.heap := O0.keep K1c (allS P13 (allS P15 all0))
      refine Fine.pre (fun t k => pre0 _ (?_)) (pc_3 (o1 := o1) (o2 := o2) (kk1 := kk1) (o3 := o3) (kk2 := kk2) (ii1 := i10) X2 hx hZ hw hby hml hown hre hlk e2 N2 Z1 O1 Sg0 E_w1 Sg2 E_w2 F_w1_ordinal F_w2_ordinal F1_3 F1_4 Fq1_0 Fq1_2 Fq1_3 Fq1_1 Fq1_5 P8 Fq1_4 bx_i10 P11 lt_o1_1 P13 lt_o2_1 P15 lt_o3_1 P17 P18 P19)
      show SF p e below T0 (mkF m 124 #[iv p0s, iv p1s, iv p2s, iv p3s, rv o1, rv o2, iv 1, iv 2] [(.ref o1), (.int p2s), (.int 2), (.ref o2)]) _
      refine st1 _ ?_
      show SF p e below T1 (mkF m 127 #[iv p0s, iv p1s, iv p2s, iv p3s, rv o1, rv o2, iv 1, iv 2] [(.int 3)]) _
      refine XS.istore X1.here hx rfl (hb hby at_127) rfl (l' := #[iv p0s, iv p1s, iv p2s, iv p3s, rv o1, rv o2, iv 1, iv 3]) rfl ?_
      show SF p e below T1 (mkF m 129 #[iv p0s, iv p1s, iv p2s, iv p3s, rv o1, rv o2, iv 1, iv 3] []) _
      refine XS.iload X1.here hx rfl (hb hby at_129) rfl ?_
      show SF p e below T1 (mkF m 131 #[iv p0s, iv p1s, iv p2s, iv p3s, rv o1, rv o2, iv 1, iv 3] [(.int 1)]) _
      refine XS.ifNo X1.here hx rfl (hb hby at_131) rfl ((if0 _ _).trans (feq (by decide : ¬ ((1 : Int32) = (0 : Int32)))).1) ?_
      show SF p e below T1 (mkF m 134 #[iv p0s, iv p1s, iv p2s, iv p3s, rv o1, rv o2, iv 1, iv 3] []) _
      refine XS.aload X1.here hx rfl (hb hby at_134) rfl rfl ?_
      show SF p e below T1 (mkF m 136 #[iv p0s, iv p1s, iv p2s, iv p3s, rv o1, rv o2, iv 1, iv 3] [(.ref o2)]) _
      refine st2.trans ?_
      show SF p e below T2 (mkF m 139 #[iv p0s, iv p1s, iv p2s, iv p3s, rv o1, rv o2, iv 1, iv 3] [(.int 0)]) _
      refine XS.iload X2.here hx rfl (hb hby at_139) rfl ?_
      show SF p e below T2 (mkF m 141 #[iv p0s, iv p1s, iv p2s, iv p3s, rv o1, rv o2, iv 1, iv 3] [(.int 3), (.int 0)]) _
      refine XS.ifYes X2.here hx rfl (pc0 := 141) (pc' := 148) rfl (hb hby at_141) rfl ((if0 _ _).trans (feq (by decide : ¬ ((3 : Int32) = (0 : Int32)))).2) (by decide) (by decide) ?_
      show SF p e below T2 (mkF m 148 #[iv p0s, iv p1s, iv p2s, iv p3s, rv o1, rv o2, iv 1, iv 3] [(.int 0)]) _
      refine XS.iconst X2.here hx rfl (hb hby at_148) ?_
      show SF p e below T2 (mkF m 149 #[iv p0s, iv p1s, iv p2s, iv p3s, rv o1, rv o2, iv 1, iv 3] [(.int 0), (.int 0)]) _
      refine XS.icmpNo X2.here hx rfl (hb hby at_149) rfl (teq (by decide : (0 : Int32) = (0 : Int32))).2 ?_
      show SF p e below T2 (mkF m 152 #[iv p0s, iv p1s, iv p2s, iv p3s, rv o1, rv o2, iv 1, iv 3] []) _
      refine XS.iconst X2.here hx rfl (hb hby at_152) ?_
      show SF p e below T2 (mkF m 153 #[iv p0s, iv p1s, iv p2s, iv p3s, rv o1, rv o2, iv 1, iv 3] [(.int 1)]) _
      refine XS.goto X2.here hx rfl (pc0 := 153) (pc' := 157) rfl (hb hby at_153) (by decide) (by decide) ?_
      show SF p e below T2 (mkF m 157 #[iv p0s, iv p1s, iv p2s, iv p3s, rv o1, rv o2, iv 1, iv 3] [(.int 1)]) _
      refine XS.istore X2.here hx rfl (hb hby at_157) rfl (l' := #[iv p0s, iv p1s, iv p2s, iv p3s, rv o1, rv o2, iv 1, iv 3]) rfl ?_
      exact k
    · obtain ⟨_, _, ⟨T1, L1, k1x, n1⟩, -, X1, ⟨Lc1, hQ1, l1, y1, z1⟩, st1⟩ := Jvm.LawKit.callS X0 hx (y := (⟨"com/example/afterlog/afterlog/ListValueIsEmptyPinLaw", "step", "(Lcom/example/afterlog/afterlog/ListValue;II[B)I"⟩ : MethodName)) hown (mvT hZ (tw hw 21 rfl)) (mvT hZ (tw hw 22 rfl)) (mvT hZ (tw hw 23 rfl)) (mvT hZ (tw hw 24 rfl)) (by decide) (backOf (W := 0) (rm4_36 l Z a0 hw [] o2 p2s o1 w2 ii1 o3 kk2 h0 n0 Z0 hc1 Sg2 O0 hc2 P3 P5 P4 P7 P10 P9 P15 P19 P6 P13) hZ (tw hw 24 rfl) (tw hw 23 rfl) (by decide) (by decide)) (g := (mkF m 124 #[iv p0s, iv p1s, iv p2s, iv p3s, rv o1, rv o2, iv 1, iv 2] [(.ref o1), (.int p2s), (.int 2), (.ref o2)])) rfl (by rw [hml]; rfl) (argsL := [(.ref o2), (.int 2), (.int p2s), (.ref o1)]) (rest := []) (lenOf pd_4 rfl) rfl (by show 2 * 0 + _ ≤ _; exact Nat.le_of_eq rfl) (hb hby at_124) (fun _ _ => ⟨rfl, e0, (by decide : 3 + 0 ≤ _), (by decide : 12 + 0 ≤ _)⟩)
      dsimp only [Pt.U, Pt.locs, Pt.cells, Pt.slots] at X1 l1 y1 z1 st1 hQ1
      subst l1 y1 z1
      obtain ⟨i12, bx_i12, rfl, N1q, K1c, Fq1_0, Fq1_1, Fq1_2, Fq1_3, Fq1_4, Fq1_5⟩ := hQ1
      have N1 := Fr.app N0 N1q
      have Z1 : n0 ≤ T1.heap.size := Nat.le_trans Z0 K1c.1
      obtain ⟨cq2, kq2, q2a, q2b, q2c⟩ := isOf hZ rfl Fq1_2
      obtain ⟨_, _, ⟨T2, L2, k2x, n2⟩, -, X2, ⟨Lc2, hQ2, l2, y2, z2⟩, st2⟩ := X1.virtualBack hx (y := (⟨"com/example/afterlog/afterlog/ListValue", "isEmpty", "()Z"⟩ : MethodName)) (z := (⟨"com/example/afterlog/afterlog/ListValue", "isEmpty", "()Z"⟩ : MethodName)) hown (mvT hZ (tw hw 14 rfl)) (mvT hZ (tw hw 15 rfl)) (notFace_of_selects (args := #[]) (mvT hZ (tw hw 17 rfl))) (mvT hZ (tw hw 17 rfl)) (mvT hZ (tw hw 16 rfl)) (by decide) (backOf (W := 0) (rm3_7 l Z a0 hw [] o2 T1.heap n0 Z1 Fq1_5) hZ (tw hw 18 rfl) (tw hw 3 rfl) (by decide) (by decide)) q2a q2c (g := (mkF m 136 #[iv p0s, iv p1s, iv p2s, iv p3s, rv o1, rv o2, iv 1, iv 1] [(.ref o2)])) rfl (by rw [hml]; rfl) (Steps.refl _) (argsL := []) (rest := []) (lenOf pd_1 rfl) rfl (by show 2 * 0 + _ ≤ _; exact Nat.le_of_eq rfl) (hb hby at_136) (fun _ _ => ⟨rfl, rfl, (by decide : 3 + 0 ≤ _), (by decide : 12 + 0 ≤ _)⟩)
      dsimp only [Pt.U, Pt.locs, Pt.cells, Pt.slots] at X2 l2 y2 z2 st2 hQ2
      subst l2 y2 z2
      obtain ⟨rfl, N2q, e2⟩ := hQ2
      have N2 := Fr.app N1 N2q
      have F1_3 : Arv Z T1.heap o1 kk1 .byte (1 : Int32) [(.int (nar .byte ((p0s &&& (127 : Int32)).toInt8.toInt32)))] (.int (0 : Int32)) := P1.keep K1c (ninS P18 (ninS P17 nin0))
      have F1_4 : Exa Z T1.heap o1 "[B" := P2.keep K1c
      have lt_o1_1 : o1 < T1.heap.size := Nat.lt_of_lt_of_le P12 K1c.1
      have lt_o2_1 : o2 < T1.heap.size := Nat.lt_of_lt_of_le P14 K1c.1
      have lt_o3_1 : o3 < T1.heap.size := Nat.lt_of_lt_of_le P16 K1c.1
      have O1 : Old Z n0 T1.heap := O0.keep K1c (allS P15 (allS P13 all0))
      refine Fine.pre (fun t k => pre0 _ (?_)) (pc_4 (o1 := o1) (o2 := o2) (kk1 := kk1) (o3 := o3) (kk2 := kk2) (ii1 := i12) X2 hx hZ hw hby hml hown hre hlk e2 N2 Z1 O1 Sg0 E_w1 Sg2 E_w2 F_w1_ordinal F_w2_ordinal F1_3 F1_4 Fq1_2 Fq1_4 Fq1_3 Fq1_5 Fq1_1 P8 Fq1_0 bx_i12 P11 lt_o1_1 P13 lt_o2_1 P15 lt_o3_1 P17 P18 P19)
      show SF p e below T0 (mkF m 124 #[iv p0s, iv p1s, iv p2s, iv p3s, rv o1, rv o2, iv 1, iv 2] [(.ref o1), (.int p2s), (.int 2), (.ref o2)]) _
      refine st1 _ ?_
      show SF p e below T1 (mkF m 127 #[iv p0s, iv p1s, iv p2s, iv p3s, rv o1, rv o2, iv 1, iv 2] [(.int 1)]) _
      refine XS.istore X1.here hx rfl (hb hby at_127) rfl (l' := #[iv p0s, iv p1s, iv p2s, iv p3s, rv o1, rv o2, iv 1, iv 1]) rfl ?_
      show SF p e below T1 (mkF m 129 #[iv p0s, iv p1s, iv p2s, iv p3s, rv o1, rv o2, iv 1, iv 1] []) _
      refine XS.iload X1.here hx rfl (hb hby at_129) rfl ?_
      show SF p e below T1 (mkF m 131 #[iv p0s, iv p1s, iv p2s, iv p3s, rv o1, rv o2, iv 1, iv 1] [(.int 1)]) _
      refine XS.ifNo X1.here hx rfl (hb hby at_131) rfl ((if0 _ _).trans (feq (by decide : ¬ ((1 : Int32) = (0 : Int32)))).1) ?_
      show SF p e below T1 (mkF m 134 #[iv p0s, iv p1s, iv p2s, iv p3s, rv o1, rv o2, iv 1, iv 1] []) _
      refine XS.aload X1.here hx rfl (hb hby at_134) rfl rfl ?_
      show SF p e below T1 (mkF m 136 #[iv p0s, iv p1s, iv p2s, iv p3s, rv o1, rv o2, iv 1, iv 1] [(.ref o2)]) _
      refine st2.trans ?_
      show SF p e below T2 (mkF m 139 #[iv p0s, iv p1s, iv p2s, iv p3s, rv o1, rv o2, iv 1, iv 1] [(.int 0)]) _
      refine XS.iload X2.here hx rfl (hb hby at_139) rfl ?_
      show SF p e below T2 (mkF m 141 #[iv p0s, iv p1s, iv p2s, iv p3s, rv o1, rv o2, iv 1, iv 1] [(.int 1), (.int 0)]) _
      refine XS.ifYes X2.here hx rfl (pc0 := 141) (pc' := 148) rfl (hb hby at_141) rfl ((if0 _ _).trans (feq (by decide : ¬ ((1 : Int32) = (0 : Int32)))).2) (by decide) (by decide) ?_
      show SF p e below T2 (mkF m 148 #[iv p0s, iv p1s, iv p2s, iv p3s, rv o1, rv o2, iv 1, iv 1] [(.int 0)]) _
      refine XS.iconst X2.here hx rfl (hb hby at_148) ?_
      show SF p e below T2 (mkF m 149 #[iv p0s, iv p1s, iv p2s, iv p3s, rv o1, rv o2, iv 1, iv 1] [(.int 0), (.int 0)]) _
      refine XS.icmpNo X2.here hx rfl (hb hby at_149) rfl (teq (by decide : (0 : Int32) = (0 : Int32))).2 ?_
      show SF p e below T2 (mkF m 152 #[iv p0s, iv p1s, iv p2s, iv p3s, rv o1, rv o2, iv 1, iv 1] []) _
      refine XS.iconst X2.here hx rfl (hb hby at_152) ?_
      show SF p e below T2 (mkF m 153 #[iv p0s, iv p1s, iv p2s, iv p3s, rv o1, rv o2, iv 1, iv 1] [(.int 1)]) _
      refine XS.goto X2.here hx rfl (pc0 := 153) (pc' := 157) rfl (hb hby at_153) (by decide) (by decide) ?_
      show SF p e below T2 (mkF m 157 #[iv p0s, iv p1s, iv p2s, iv p3s, rv o1, rv o2, iv 1, iv 1] [(.int 1)]) _
      refine XS.istore X2.here hx rfl (hb hby at_157) rfl (l' := #[iv p0s, iv p1s, iv p2s, iv p3s, rv o1, rv o2, iv 1, iv 1]) rfl ?_
      exact k
-- ListValue.pop 
def Q7_37 (Z : State) (u1 : Addr) (w1 : Addr) (w2 : Addr) (u2 : Addr) (u3 : Int32) (u4 : ClassId) (h0 : Heap) (n0 : Nat) (v : Option Value) (h : Heap) (L : List Loc) : Prop := ∃ e1x : Value, (e1x.isRef = true) ∧ v = some e1x ∧ Fr n0 L ∧ Keep h0 h [u2, u1] ∧ Ary Z h u2 u4 (.array .byte) (8 : Int32) ∧ Exa Z h u2 "[[B" ∧ Fld Z h u1 "com/example/afterlog/afterlog/ListValue" "size" "I" (.int 0) ∧ Exa Z h u1 "com/example/afterlog/afterlog/ListValue" ∧ Fld Z h u1 "com/example/afterlog/afterlog/ListValue" "elements" "[[B" (.ref u2) ∧ Fld Z h u1 "com/example/afterlog/afterlog/ListValue" "head" "I" (.int u3)
set_option maxRecDepth 65536 in
set_option maxHeartbeats 40000000 in
theorem rm7_37 (l : Launch) (Z : State) (a0 : Array Value) (hw : HW Z a0) (ws : List Jvm.Cond) (u1 : Addr) (w1 : Addr) (w2 : Addr) (u2 : Addr) (u3 : Int32) (u4 : ClassId) (h0 : Heap) (n0 : Nat) (Z0 : n0 ≤ h0.size) (Sg2 : Sta Z Z.heap "com/example/afterlog/afterlog/ListValue$End" "HEAD" "Lcom/example/afterlog/afterlog/ListValue$End;" (.ref w2)) (P2 : Old Z n0 h0) (F_w1_ordinal : Fld Z Z.heap w1 "java/lang/Enum" "ordinal" "I" (.int 1)) (F_w2_ordinal : Fld Z Z.heap w2 "java/lang/Enum" "ordinal" "I" (.int 0)) (P5 : Fld Z h0 u1 "com/example/afterlog/afterlog/ListValue" "size" "I" (.int 1)) (P6 : Exa Z h0 u1 "com/example/afterlog/afterlog/ListValue") (P7 : Fld Z h0 u1 "com/example/afterlog/afterlog/ListValue" "elements" "[[B" (.ref u2)) (P8 : Fld Z h0 u1 "com/example/afterlog/afterlog/ListValue" "head" "I" (.int u3)) (P9 : Ary Z h0 u2 u4 (.array .byte) (8 : Int32)) (P10 : ¬ u3 < (0 : Int32) ∧ u3 < (8 : Int32)) (P11 : Exa Z h0 u2 "[[B") (P12 : n0 ≤ u2) (P13 : u1 ≠ u2) (P14 : n0 ≤ u1) :
    MF l Z (⟨"com/example/afterlog/afterlog/ListValue", "pop", "(Lcom/example/afterlog/afterlog/ListValue$End;)[B"⟩ : MethodName) (Jvm.Cond.code (⟨"com/example/afterlog/afterlog/ListValue", "pop", "(Lcom/example/afterlog/afterlog/ListValue$End;)[B"⟩ : MethodName) prog_24_method_7_code 4 (some (.array .byte))) ws ({ frames := 1, cells := 0, slots := 0, locals := 14 } : Room) #[(.ref u1), (.ref w1)] h0 (Q7_37 Z u1 w1 w2 u2 u3 u4 h0 n0) := by
  refine MetFree.of_bodySF (plainFor_of_name pn_0) hisR ?_
  intro p e s m args below meth c s₁ Bd hml0 hP hK
  obtain ⟨rfl, hZ, hh⟩ := hP
  have hx := Bd.exec
  have hby := Bd.bytes
  have hml : c.maxLocals = 4 := hml0
  have hown : s.vm.findClass "com/example/afterlog/afterlog/ListValue" = some m.cls := findClass_of_methodNamed Bd.named
  have hnm := (name_of_methodNamed Bd.named Bd.method).1
  have X0 : Stand p l e ({ frames := 1, cells := 0, slots := 0, locals := 14 } : Room) s m #[(.ref u1), (.ref w1)] below meth c s₁ [] 0 0 := Stand.of_body Bd
  have e0 : s₁.heap = h0 := by rw [← hh, Bd.state]; rfl
  have N0 := Fr.nil n0
  have pre0 : ∀ t, SF p e below s₁ (mkF m 0 #[rv u1, rv w1, .unset, .unset] []) t → SF p e below s₁ (entryFrame m #[(.ref u1), (.ref w1)] 4) t := fun t k => castTop (ef_5 m u1 w1) k
  obtain ⟨T1, X1, e1, st1⟩ := getS2 X0 hx hZ hown (host := "") (Or.inl (tw hw 33 rfl)) Via.refl e0 (Sg2.ext P2.2) (g := (mkF m 1 #[rv u1, rv w1, .unset, .unset] [(.ref w1)])) rfl (hb hby d7_1)
  obtain ⟨T2, X2, e2, st2⟩ := getF X1 hx hZ hown (host := "") (Or.inl (tw hw 19 rfl)) Via.refl e1 P5 (g := (mkF m 16 #[rv u1, rv w1, .unset, .unset] [(.ref u1), (.ref u1)])) rfl rfl (hb hby d7_16)
  obtain ⟨cq3, q3, q3'⟩ := P6.cell
  obtain ⟨_, _, ⟨T3, L3, k3x, n3⟩, -, X3, ⟨Lc3, hQ3, l3, y3, z3⟩, st3⟩ := X2.privateBack hx (y := (⟨"com/example/afterlog/afterlog/ListValue", "slot", "(I)I"⟩ : MethodName)) hown (mvT hZ (tw hw 35 rfl)) (mvT hZ (tw hw 36 rfl)) (own_selP hZ (tw hw 2 rfl) (tw hw 37 rfl) (tw hw 36 rfl) (by decide)) (Cond.privateMethod_at (mvP hZ (tw hw 37 rfl) (args := #[]))) (mvT hZ (tw hw 38 rfl)) (by decide) (backOf (W := 0) (own_slot l Z a0 hw [] u1 u2 u4 u3 (0 : Int32) h0 n0 Z0 P7 P8 P9 P10 ⟨by decide, by decide⟩) hZ (tw hw 38 rfl) (tw hw 3 rfl) (by decide) (by decide)) (g := (mkF m 21 #[rv u1, rv w1, .unset, .unset] [(.int 0), (.ref u1)])) rfl (by rw [hml]; rfl) (Steps.refl _) (a := u1) (by rw [e2]; exact q3) q3' (argsL := [(.int 0)]) (rest := []) (lenOf pd_2 rfl) rfl (by show 2 * 0 + _ ≤ _; exact Nat.le_of_eq rfl) (hb hby d7_21) (fun _ _ => ⟨rfl, e2, (by decide : 0 + 0 ≤ _), (by decide : 0 + 0 ≤ _)⟩)
  dsimp only [Pt.U, Pt.locs, Pt.cells, Pt.slots] at X3 l3 y3 z3 st3 hQ3
  subst l3 y3 z3
  obtain ⟨w6x, bx_i7, rfl, N3q, e3⟩ := hQ3
  have N3 := Fr.app N0 N3q
  obtain ⟨T4, X4, e4, st4⟩ := getF X3 hx hZ hown (host := "") (Or.inl (tw hw 12 rfl)) Via.refl e3 P7 (g := (mkF m 26 #[rv u1, rv w1, iv w6x, .unset] [(.ref u1)])) rfl rfl (hb hby d7_26)
  obtain ⟨cl5, Ar5, q5, S5, N5z, H5⟩ := id P9
  have hin5 : ¬ (w6x < 0 ∨ cl5.slots.size ≤ (w6x).toNatClampNeg) := inb_of S5 ⟨(bx_i7).1, (bx_i7).2⟩
  obtain ⟨e1x, hat5, rv5⟩ := H5 (w6x).toNatClampNeg (Nat.lt_of_not_le fun y => hin5 (Or.inr y))
  obtain ⟨T6, X6, e6, st6⟩ := getF X4 hx hZ hown (host := "") (Or.inl (tw hw 12 rfl)) Via.refl e4 P7 (g := (mkF m 33 #[rv u1, rv w1, iv w6x, .val e1x] [(.ref u1)])) rfl rfl (hb hby d7_33)
  obtain ⟨cl7, Ar7, q7, S7, N7z, H7⟩ := id P9
  have hin7 : ¬ (w6x < 0 ∨ cl7.slots.size ≤ (w6x).toNatClampNeg) := inb_of S7 ⟨(bx_i7).1, (bx_i7).2⟩
  obtain ⟨T8, h8, X8, e8, W8, st8⟩ := stR X6 hx hZ e6 Ar7 (j := w6x) hin7 rfl (Or.inl rfl) (g := (mkF m 38 #[rv u1, rv w1, iv w6x, .val e1x] [.null, (.int w6x), (.ref u2)])) rfl rfl (hb hby d7_38)
  have K8 : Keep h0 h8 [u2, u1] := (Keep.refl h0 [u2, u1]).wr W8 (Or.inl (List.mem_of_getElem? (i := 0) rfl))
  have N8 := Fr.snoc X8 N3 P12
  have V8 : Ary Z h8 u2 u4 (.array .byte) (8 : Int32) := Ary.set Ar7 q7 S7 N7z H7 rfl W8
  have O8 : Old Z n0 h8 := P2.wr W8 P12
  obtain ⟨T9, X9, e9, st9⟩ := getS2 X8 hx hZ hown (host := "") (Or.inl (tw hw 33 rfl)) Via.refl e8 (Sg2.ext O8.2) (g := (mkF m 40 #[rv u1, rv w1, iv w6x, .val e1x] [(.ref w1)])) rfl (hb hby d7_40)
  have F1_10 : Fld Z h8 u1 "com/example/afterlog/afterlog/ListValue" "size" "I" (.int 1) := P5.other W8 (Or.inl P13)
  obtain ⟨T11, X11, e11, st11⟩ := getF X9 hx hZ hown (host := "") (Or.inl (tw hw 19 rfl)) Via.refl e9 F1_10 (g := (mkF m 57 #[rv u1, rv w1, iv w6x, .val e1x] [(.ref u1), (.ref u1)])) rfl rfl (hb hby d7_57)
  have F1_12 : Exa Z h8 u1 "com/example/afterlog/afterlog/ListValue" := P6.wr W8
  have F1_13 : Fld Z h8 u1 "com/example/afterlog/afterlog/ListValue" "elements" "[[B" (.ref u2) := P7.other W8 (Or.inl P13)
  have F1_14 : Fld Z h8 u1 "com/example/afterlog/afterlog/ListValue" "head" "I" (.int u3) := P8.other W8 (Or.inl P13)
  obtain ⟨T15, h15, X15, e15, W15, st15⟩ := putF X11 hx hZ hown (host := "") (Or.inl (tw hw 19 rfl)) Via.refl e11 F1_10 F1_12 (Or.inl (tw hw 20 rfl)) (tw hw 2 rfl) (ty := .int) (by decide) rfl rfl (g := (mkF m 62 #[rv u1, rv w1, iv w6x, .val e1x] [(.int 0), (.ref u1)])) rfl rfl (hb hby d7_62)
  have K15 : Keep h0 h15 [u2, u1] := K8.wr W15 (Or.inl (List.mem_of_getElem? (i := 1) rfl))
  have N15 := Fr.snoc X15 N8 P14
  have Fw15 : Fld Z h15 u1 "com/example/afterlog/afterlog/ListValue" "size" "I" (.int 0) := F1_10.same W15
  have F2_16 : Ary Z h15 u2 u4 (.array .byte) (8 : Int32) := V8.other W15 (Ne.symm P13)
  have F1_17 : Exa Z h8 u2 "[[B" := P11.wr W8
  have F2_18 : Exa Z h15 u2 "[[B" := F1_17.wr W15
  have F2_19 : Exa Z h15 u1 "com/example/afterlog/afterlog/ListValue" := F1_12.wr W15
  have F2_20 : Fld Z h15 u1 "com/example/afterlog/afterlog/ListValue" "elements" "[[B" (.ref u2) := F1_13.other W15 (Or.inr (slot_ne (Or.inl (tw hw 13 rfl)) (Or.inl (tw hw 20 rfl)) (by decide) (t := (.array (.array .byte))) (t' := .int) (by decide) (by decide)))
  have F2_21 : Fld Z h15 u1 "com/example/afterlog/afterlog/ListValue" "head" "I" (.int u3) := F1_14.other W15 (Or.inr (slot_ne (Or.inl (tw hw 40 rfl)) (Or.inl (tw hw 20 rfl)) (by decide) (t := .int) (t' := .int) (by decide) (by decide)))
  obtain ⟨fs, hr, hrun, hended, hW, hsame⟩ := X15.leave (v := some e1x) (fun h => by rw [Bd.returns] at h; cases h)
  refine ⟨_, _, pre0 _ ?_, hrun, hended, _, _, rfl, ?_, ⟨_, rfl⟩, hW, hsame.mono (by decide) (by decide)⟩
  · show SF p e below s₁ (mkF m 0 #[rv u1, rv w1, .unset, .unset] []) _
    refine XS.aloadN X0.here hx rfl (hb hby d7_0) rfl rfl ?_
    show SF p e below s₁ (mkF m 1 #[rv u1, rv w1, .unset, .unset] [(.ref w1)]) _
    refine st1 _ ?_
    show SF p e below T1 (mkF m 4 #[rv u1, rv w1, .unset, .unset] [(.ref w2), (.ref w1)]) _
    refine Jvm.RoadKit.acmp (g := (mkF m 4 #[rv u1, rv w1, .unset, .unset] [(.ref w2), (.ref w1)])) X1 hx rfl rfl rfl (pc0 := 4) (pc' := 14) (same := false) rfl (hb hby d7_4) rfl (decide_eq_false fun q => (Fld.ne F_w1_ordinal F_w2_ordinal (by decide)) (Value.ref.inj q)) (by decide) (by decide) ?_
    show SF p e below T1 (mkF m 14 #[rv u1, rv w1, .unset, .unset] []) _
    refine XS.aloadN X1.here hx rfl (hb hby d7_14) rfl rfl ?_
    show SF p e below T1 (mkF m 15 #[rv u1, rv w1, .unset, .unset] [(.ref u1)]) _
    refine XS.aloadN X1.here hx rfl (hb hby d7_15) rfl rfl ?_
    show SF p e below T1 (mkF m 16 #[rv u1, rv w1, .unset, .unset] [(.ref u1), (.ref u1)]) _
    refine st2 _ ?_
    show SF p e below T2 (mkF m 19 #[rv u1, rv w1, .unset, .unset] [(.int 1), (.ref u1)]) _
    refine XS.iconst X2.here hx rfl (hb hby d7_19) ?_
    show SF p e below T2 (mkF m 20 #[rv u1, rv w1, .unset, .unset] [(.int 1), (.int 1), (.ref u1)]) _
    refine XS.isub X2.here hx rfl (hb hby d7_20) rfl ?_
    show SF p e below T2 (mkF m 21 #[rv u1, rv w1, .unset, .unset] [(.int ((1 : Int32) - (1 : Int32))), (.ref u1)]) _
    rw [show ((1 : Int32) - (1 : Int32)) = (0 : Int32) from by decide]
    show SF p e below T2 (mkF m 21 #[rv u1, rv w1, .unset, .unset] [(.int 0), (.ref u1)]) _
    refine st3.trans ?_
    show SF p e below T3 (mkF m 24 #[rv u1, rv w1, .unset, .unset] [(.int w6x)]) _
    refine XS.istoreN X3.here hx rfl (hb hby d7_24) rfl (l' := #[rv u1, rv w1, iv w6x, .unset]) rfl ?_
    show SF p e below T3 (mkF m 25 #[rv u1, rv w1, iv w6x, .unset] []) _
    refine XS.aloadN X3.here hx rfl (hb hby d7_25) rfl rfl ?_
    show SF p e below T3 (mkF m 26 #[rv u1, rv w1, iv w6x, .unset] [(.ref u1)]) _
    refine st4 _ ?_
    show SF p e below T4 (mkF m 29 #[rv u1, rv w1, iv w6x, .unset] [(.ref u2)]) _
    refine XS.iloadN X4.here hx rfl (hb hby d7_29) rfl ?_
    show SF p e below T4 (mkF m 30 #[rv u1, rv w1, iv w6x, .unset] [(.int w6x), (.ref u2)]) _
    refine X4.aaload hx (j := w6x) (v := e1x) (by rw [e4]; exact Ar5.1) (State.isArrayOf_alike hZ.alike Ar5.2.1) rfl Ar5.2.2 hin5 hat5 (g := (mkF m 30 #[rv u1, rv w1, iv w6x, .unset] [(.int w6x), (.ref u2)])) rfl rfl (hb hby d7_30) _ ?_
    show SF p e below T4 (mkF m 31 #[rv u1, rv w1, iv w6x, .unset] [e1x]) _
    refine XS.astoreN X4.here hx rfl (hb hby d7_31) rfl rv5 (l' := #[rv u1, rv w1, iv w6x, .val e1x]) (by rcases ref_cases rv5 with h | ⟨_, h⟩ <;> subst h <;> rfl) ?_
    show SF p e below T4 (mkF m 32 #[rv u1, rv w1, iv w6x, .val e1x] []) _
    refine XS.aloadN X4.here hx rfl (hb hby d7_32) rfl rfl ?_
    show SF p e below T4 (mkF m 33 #[rv u1, rv w1, iv w6x, .val e1x] [(.ref u1)]) _
    refine st6 _ ?_
    show SF p e below T6 (mkF m 36 #[rv u1, rv w1, iv w6x, .val e1x] [(.ref u2)]) _
    refine XS.iloadN X6.here hx rfl (hb hby d7_36) rfl ?_
    show SF p e below T6 (mkF m 37 #[rv u1, rv w1, iv w6x, .val e1x] [(.int w6x), (.ref u2)]) _
    refine XS.aconstNull X6.here hx rfl (hb hby d7_37) ?_
    show SF p e below T6 (mkF m 38 #[rv u1, rv w1, iv w6x, .val e1x] [.null, (.int w6x), (.ref u2)]) _
    refine st8 _ ?_
    show SF p e below T8 (mkF m 39 #[rv u1, rv w1, iv w6x, .val e1x] []) _
    refine XS.aloadN X8.here hx rfl (hb hby d7_39) rfl rfl ?_
    show SF p e below T8 (mkF m 40 #[rv u1, rv w1, iv w6x, .val e1x] [(.ref w1)]) _
    refine st9 _ ?_
    show SF p e below T9 (mkF m 43 #[rv u1, rv w1, iv w6x, .val e1x] [(.ref w2), (.ref w1)]) _
    refine Jvm.RoadKit.acmp (g := (mkF m 43 #[rv u1, rv w1, iv w6x, .val e1x] [(.ref w2), (.ref w1)])) X9 hx rfl rfl rfl (pc0 := 43) (pc' := 55) (same := false) rfl (hb hby d7_43) rfl (decide_eq_false fun q => (Fld.ne F_w1_ordinal F_w2_ordinal (by decide)) (Value.ref.inj q)) (by decide) (by decide) ?_
    show SF p e below T9 (mkF m 55 #[rv u1, rv w1, iv w6x, .val e1x] []) _
    refine XS.aloadN X9.here hx rfl (hb hby d7_55) rfl rfl ?_
    show SF p e below T9 (mkF m 56 #[rv u1, rv w1, iv w6x, .val e1x] [(.ref u1)]) _
    refine XS.dup X9.here hx rfl (hb hby d7_56) rfl rfl ?_
    show SF p e below T9 (mkF m 57 #[rv u1, rv w1, iv w6x, .val e1x] [(.ref u1), (.ref u1)]) _
    refine st11 _ ?_
    show SF p e below T11 (mkF m 60 #[rv u1, rv w1, iv w6x, .val e1x] [(.int 1), (.ref u1)]) _
    refine XS.iconst X11.here hx rfl (hb hby d7_60) ?_
    show SF p e below T11 (mkF m 61 #[rv u1, rv w1, iv w6x, .val e1x] [(.int 1), (.int 1), (.ref u1)]) _
    refine XS.isub X11.here hx rfl (hb hby d7_61) rfl ?_
    show SF p e below T11 (mkF m 62 #[rv u1, rv w1, iv w6x, .val e1x] [(.int ((1 : Int32) - (1 : Int32))), (.ref u1)]) _
    rw [show ((1 : Int32) - (1 : Int32)) = (0 : Int32) from by decide]
    show SF p e below T11 (mkF m 62 #[rv u1, rv w1, iv w6x, .val e1x] [(.int 0), (.ref u1)]) _
    refine st15 _ ?_
    show SF p e below T15 (mkF m 65 #[rv u1, rv w1, iv w6x, .val e1x] []) _
    refine XS.aloadN X15.here hx rfl (hb hby d7_65) rfl rv5 ?_
    show SF p e below T15 (mkF m 66 #[rv u1, rv w1, iv w6x, .val e1x] [e1x]) _
    exact own_retR X15 hx Bd.returns rfl rv5 (hb hby d7_66) hr
  · show Q7_37 Z u1 w1 w2 u2 u3 u4 h0 n0 _ T15.heap _
    rw [e15]
    exact ⟨e1x, rv5, rfl, N15, K15, F2_16, F2_18, Fw15, F2_19, F2_20, F2_21⟩
-- ListValueIsEmptyPinLaw.step 
def Q4_38 (Z : State) (u1 : Addr) (u2 : Int32) (u3 : Addr) (w1 : Addr) (w2 : Addr) (u4 : Addr) (u5 : Int32) (u6 : ClassId) (h0 : Heap) (n0 : Nat) (v : Option Value) (h : Heap) (L : List Loc) : Prop := v = some (.int 0) ∧ Fr n0 L ∧ Keep h0 h [u4, u1] ∧ Exa Z h u4 "[[B" ∧ Ary Z h u4 u6 (.array .byte) (8 : Int32) ∧ Exa Z h u1 "com/example/afterlog/afterlog/ListValue" ∧ Fld Z h u1 "com/example/afterlog/afterlog/ListValue" "size" "I" (.int 0) ∧ Fld Z h u1 "com/example/afterlog/afterlog/ListValue" "elements" "[[B" (.ref u4) ∧ Fld Z h u1 "com/example/afterlog/afterlog/ListValue" "head" "I" (.int u5)
set_option maxRecDepth 65536 in
set_option maxHeartbeats 40000000 in
theorem rm4_38 (l : Launch) (Z : State) (a0 : Array Value) (hw : HW Z a0) (ws : List Jvm.Cond) (u1 : Addr) (u2 : Int32) (u3 : Addr) (w1 : Addr) (w2 : Addr) (u4 : Addr) (u5 : Int32) (u6 : ClassId) (h0 : Heap) (n0 : Nat) (Z0 : n0 ≤ h0.size) (P1 : (u2 &&& (2 : Int32)) = (0 : Int32)) (Sg0 : Sta Z Z.heap "com/example/afterlog/afterlog/ListValue$End" "TAIL" "Lcom/example/afterlog/afterlog/ListValue$End;" (.ref w1)) (P3 : Old Z n0 h0) (P4 : ¬ ((u2 &&& (1 : Int32)) = (0 : Int32))) (P5 : Exa Z h0 u1 "com/example/afterlog/afterlog/ListValue") (Sg2 : Sta Z Z.heap "com/example/afterlog/afterlog/ListValue$End" "HEAD" "Lcom/example/afterlog/afterlog/ListValue$End;" (.ref w2)) (F_w1_ordinal : Fld Z Z.heap w1 "java/lang/Enum" "ordinal" "I" (.int 1)) (F_w2_ordinal : Fld Z Z.heap w2 "java/lang/Enum" "ordinal" "I" (.int 0)) (P9 : Fld Z h0 u1 "com/example/afterlog/afterlog/ListValue" "size" "I" (.int 1)) (P10 : Fld Z h0 u1 "com/example/afterlog/afterlog/ListValue" "elements" "[[B" (.ref u4)) (P11 : Fld Z h0 u1 "com/example/afterlog/afterlog/ListValue" "head" "I" (.int u5)) (P12 : Ary Z h0 u4 u6 (.array .byte) (8 : Int32)) (P13 : ¬ u5 < (0 : Int32) ∧ u5 < (8 : Int32)) (P14 : Exa Z h0 u4 "[[B") (P15 : n0 ≤ u4) (P16 : u1 ≠ u4) (P17 : n0 ≤ u1) :
    MF l Z (⟨"com/example/afterlog/afterlog/ListValueIsEmptyPinLaw", "step", "(Lcom/example/afterlog/afterlog/ListValue;II[B)I"⟩ : MethodName) (Jvm.Cond.code (⟨"com/example/afterlog/afterlog/ListValueIsEmptyPinLaw", "step", "(Lcom/example/afterlog/afterlog/ListValue;II[B)I"⟩ : MethodName) method_3_code 5 (some .int)) ws ({ frames := 2, cells := 0, slots := 0, locals := 29 } : Room) #[(.ref u1), (.int 1), (.int u2), (.ref u3)] h0 (Q4_38 Z u1 u2 u3 w1 w2 u4 u5 u6 h0 n0) := by
  refine MetFree.of_bodySF (plainFor_of_name pn_1) hisR ?_
  intro p e s m args below meth c s₁ Bd hml0 hP hK
  obtain ⟨rfl, hZ, hh⟩ := hP
  have hx := Bd.exec
  have hby := Bd.bytes
  have hml : c.maxLocals = 5 := hml0
  have hown : s.vm.findClass "com/example/afterlog/afterlog/ListValueIsEmptyPinLaw" = some m.cls := findClass_of_methodNamed Bd.named
  have hnm := (name_of_methodNamed Bd.named Bd.method).1
  have X0 : Stand p l e ({ frames := 2, cells := 0, slots := 0, locals := 29 } : Room) s m #[(.ref u1), (.int 1), (.int u2), (.ref u3)] below meth c s₁ [] 0 0 := Stand.of_body Bd
  have e0 : s₁.heap = h0 := by rw [← hh, Bd.state]; rfl
  have N0 := Fr.nil n0
  have pre0 : ∀ t, SF p e below s₁ (mkF m 0 #[rv u1, iv 1, iv u2, rv u3, .unset] []) t → SF p e below s₁ (entryFrame m #[(.ref u1), (.int 1), (.int u2), (.ref u3)] 5) t := fun t k => castTop (ef_4 m u1 (1 : Int32) u2 u3) k
  obtain ⟨T1, X1, e1, st1⟩ := getS2 X0 hx hZ hown (host := "") (Or.inl (tw hw 25 rfl)) Via.refl e0 (Sg0.ext P3.2) (g := (mkF m 12 #[rv u1, iv 1, iv u2, rv u3, .unset] [])) rfl (hb hby d4_12)
  obtain ⟨cq2, kq2, q2a, q2b, q2c⟩ := isOf hZ e1 P5
  obtain ⟨_, _, ⟨T2, L2, k2x, n2⟩, -, X2, ⟨Lc2, hQ2, l2, y2, z2⟩, st2⟩ := X1.virtualBack hx (y := (⟨"com/example/afterlog/afterlog/ListValue", "pop", "(Lcom/example/afterlog/afterlog/ListValue$End;)[B"⟩ : MethodName)) (z := (⟨"com/example/afterlog/afterlog/ListValue", "pop", "(Lcom/example/afterlog/afterlog/ListValue$End;)[B"⟩ : MethodName)) hown (mvT hZ (tw hw 43 rfl)) (mvT hZ (tw hw 44 rfl)) (notFace_of_selects (args := #[]) (mvT hZ (tw hw 46 rfl))) (mvT hZ (tw hw 46 rfl)) (mvT hZ (tw hw 45 rfl)) (by decide) (backOf (W := 0) (rm7_37 l Z a0 hw [] u1 w1 w2 u4 u5 u6 h0 n0 Z0 Sg2 P3 F_w1_ordinal F_w2_ordinal P9 P5 P10 P11 P12 P13 P14 P15 P16 P17) hZ (tw hw 47 rfl) (tw hw 3 rfl) (by decide) (by decide)) q2a q2c (g := (mkF m 30 #[rv u1, iv 1, iv u2, rv u3, rv w1] [(.ref w1), (.ref u1)])) rfl (by rw [hml]; rfl) (Steps.refl _) (argsL := [(.ref w1)]) (rest := []) (lenOf pd_5 rfl) rfl (by show 2 * 0 + _ ≤ _; exact Nat.le_of_eq rfl) (hb hby d4_30) (fun _ _ => ⟨rfl, e1, (by decide : 0 + 0 ≤ _), (by decide : 0 + 0 ≤ _)⟩)
  dsimp only [Pt.U, Pt.locs, Pt.cells, Pt.slots] at X2 l2 y2 z2 st2 hQ2
  subst l2 y2 z2
  obtain ⟨w7x, bx_vx9, rfl, N2q, K2c, Fq2_0, Fq2_1, Fq2_2, Fq2_3, Fq2_4, Fq2_5⟩ := hQ2
  have K2 : Keep h0 T2.heap [u4, u1] := (Keep.refl h0 [u4, u1]).trans K2c (allS (Or.inl (List.mem_of_getElem? (i := 0) rfl)) (allS (Or.inl (List.mem_of_getElem? (i := 1) rfl)) all0))
  have N2 := Fr.app N0 N2q
  obtain ⟨fs, hr, hrun, hended, hW, hsame⟩ := X2.leave (v := some (.int 0)) (fun h => by rw [Bd.returns] at h; cases h)
  refine ⟨_, _, pre0 _ ?_, hrun, hended, _, _, rfl, ?_, ⟨_, rfl⟩, hW, hsame.mono (by decide) (by decide)⟩
  · show SF p e below s₁ (mkF m 0 #[rv u1, iv 1, iv u2, rv u3, .unset] []) _
    refine XS.iloadN X0.here hx rfl (hb hby d4_0) rfl ?_
    show SF p e below s₁ (mkF m 1 #[rv u1, iv 1, iv u2, rv u3, .unset] [(.int u2)]) _
    refine XS.iconst X0.here hx rfl (hb hby d4_1) ?_
    show SF p e below s₁ (mkF m 2 #[rv u1, iv 1, iv u2, rv u3, .unset] [(.int 2), (.int u2)]) _
    refine XS.iand X0.here hx rfl (hb hby d4_2) rfl ?_
    show SF p e below s₁ (mkF m 3 #[rv u1, iv 1, iv u2, rv u3, .unset] [(.int (u2 &&& (2 : Int32)))]) _
    refine XS.ifYes X0.here hx rfl (pc0 := 3) (pc' := 12) rfl (hb hby d4_3) rfl ((if0 _ _).trans (teq P1).1) (by decide) (by decide) ?_
    show SF p e below s₁ (mkF m 12 #[rv u1, iv 1, iv u2, rv u3, .unset] []) _
    refine st1 _ ?_
    show SF p e below T1 (mkF m 15 #[rv u1, iv 1, iv u2, rv u3, .unset] [(.ref w1)]) _
    refine XS.astore X1.here hx rfl (hb hby d4_15) rfl rfl (l' := #[rv u1, iv 1, iv u2, rv u3, rv w1]) rfl ?_
    show SF p e below T1 (mkF m 17 #[rv u1, iv 1, iv u2, rv u3, rv w1] []) _
    refine XS.iloadN X1.here hx rfl (hb hby d4_17) rfl ?_
    show SF p e below T1 (mkF m 18 #[rv u1, iv 1, iv u2, rv u3, rv w1] [(.int u2)]) _
    refine XS.iconst X1.here hx rfl (hb hby d4_18) ?_
    show SF p e below T1 (mkF m 19 #[rv u1, iv 1, iv u2, rv u3, rv w1] [(.int 1), (.int u2)]) _
    refine XS.iand X1.here hx rfl (hb hby d4_19) rfl ?_
    show SF p e below T1 (mkF m 20 #[rv u1, iv 1, iv u2, rv u3, rv w1] [(.int (u2 &&& (1 : Int32)))]) _
    refine XS.ifNo X1.here hx rfl (hb hby d4_20) rfl ((if0 _ _).trans (feq P4).1) ?_
    show SF p e below T1 (mkF m 23 #[rv u1, iv 1, iv u2, rv u3, rv w1] []) _
    refine XS.iloadN X1.here hx rfl (hb hby d4_23) rfl ?_
    show SF p e below T1 (mkF m 24 #[rv u1, iv 1, iv u2, rv u3, rv w1] [(.int 1)]) _
    refine XS.ifNo X1.here hx rfl (hb hby d4_24) rfl ((if0 _ _).trans (tlt (by decide : (0 : Int32) < (1 : Int32))).2.2.2) ?_
    show SF p e below T1 (mkF m 27 #[rv u1, iv 1, iv u2, rv u3, rv w1] []) _
    refine XS.aloadN X1.here hx rfl (hb hby d4_27) rfl rfl ?_
    show SF p e below T1 (mkF m 28 #[rv u1, iv 1, iv u2, rv u3, rv w1] [(.ref u1)]) _
    refine XS.aload X1.here hx rfl (hb hby d4_28) rfl rfl ?_
    show SF p e below T1 (mkF m 30 #[rv u1, iv 1, iv u2, rv u3, rv w1] [(.ref w1), (.ref u1)]) _
    refine st2.trans ?_
    show SF p e below T2 (mkF m 33 #[rv u1, iv 1, iv u2, rv u3, rv w1] [w7x]) _
    refine XS.pop X2.here hx rfl (hb hby d4_33) rfl (by rcases ref_cases bx_vx9 with h | ⟨_, h⟩ <;> subst h <;> rfl) ?_
    show SF p e below T2 (mkF m 34 #[rv u1, iv 1, iv u2, rv u3, rv w1] []) _
    refine XS.iloadN X2.here hx rfl (hb hby d4_34) rfl ?_
    show SF p e below T2 (mkF m 35 #[rv u1, iv 1, iv u2, rv u3, rv w1] [(.int 1)]) _
    refine XS.iconst X2.here hx rfl (hb hby d4_35) ?_
    show SF p e below T2 (mkF m 36 #[rv u1, iv 1, iv u2, rv u3, rv w1] [(.int 1), (.int 1)]) _
    refine XS.isub X2.here hx rfl (hb hby d4_36) rfl ?_
    show SF p e below T2 (mkF m 37 #[rv u1, iv 1, iv u2, rv u3, rv w1] [(.int ((1 : Int32) - (1 : Int32)))]) _
    rw [show ((1 : Int32) - (1 : Int32)) = (0 : Int32) from by decide]
    show SF p e below T2 (mkF m 37 #[rv u1, iv 1, iv u2, rv u3, rv w1] [(.int 0)]) _
    exact retI X2 hx Bd.returns (hb hby d4_37) hr
  · show Q4_38 Z u1 u2 u3 w1 w2 u4 u5 u6 h0 n0 _ T2.heap _
    exact ⟨rfl, N2, K2, Fq2_1, Fq2_0, Fq2_3, Fq2_2, Fq2_4, Fq2_5⟩
-- ListValue.push 
def Q5_39 (Z : State) (u1 : Addr) (w1 : Addr) (u2 : Addr) (u3 : Addr) (u4 : ClassId) (w2 : Addr) (u5 : Int32) (h0 : Heap) (n0 : Nat) (v : Option Value) (h : Heap) (L : List Loc) : Prop := v = none ∧ Fr n0 L ∧ Keep h0 h [u3, u1] ∧ Ary Z h u3 u4 (.array .byte) (8 : Int32) ∧ Exa Z h u3 "[[B" ∧ Fld Z h u1 "com/example/afterlog/afterlog/ListValue" "size" "I" (.int 1) ∧ Fld Z h u1 "com/example/afterlog/afterlog/ListValue" "elements" "[[B" (.ref u3) ∧ Exa Z h u1 "com/example/afterlog/afterlog/ListValue" ∧ Fld Z h u1 "com/example/afterlog/afterlog/ListValue" "head" "I" (.int u5)
set_option maxRecDepth 65536 in
set_option maxHeartbeats 40000000 in
theorem rm5_39 (l : Launch) (Z : State) (a0 : Array Value) (hw : HW Z a0) (ws : List Jvm.Cond) (u1 : Addr) (w1 : Addr) (u2 : Addr) (u3 : Addr) (u4 : ClassId) (w2 : Addr) (u5 : Int32) (h0 : Heap) (n0 : Nat) (Z0 : n0 ≤ h0.size) (P1 : Fld Z h0 u1 "com/example/afterlog/afterlog/ListValue" "size" "I" (.int 0)) (P2 : Fld Z h0 u1 "com/example/afterlog/afterlog/ListValue" "elements" "[[B" (.ref u3)) (P3 : Ary Z h0 u3 u4 (.array .byte) (8 : Int32)) (Sg2 : Sta Z Z.heap "com/example/afterlog/afterlog/ListValue$End" "HEAD" "Lcom/example/afterlog/afterlog/ListValue$End;" (.ref w2)) (P5 : Old Z n0 h0) (F_w1_ordinal : Fld Z Z.heap w1 "java/lang/Enum" "ordinal" "I" (.int 1)) (F_w2_ordinal : Fld Z Z.heap w2 "java/lang/Enum" "ordinal" "I" (.int 0)) (P8 : Exa Z h0 u1 "com/example/afterlog/afterlog/ListValue") (P9 : Fld Z h0 u1 "com/example/afterlog/afterlog/ListValue" "head" "I" (.int u5)) (P10 : ¬ u5 < (0 : Int32) ∧ u5 < (8 : Int32)) (P11 : Exa Z h0 u3 "[[B") (P12 : OvrA Z u4 .byte "[B") (P13 : Exa Z h0 u2 "[B") (P14 : n0 ≤ u3) (P15 : u1 ≠ u3) (P16 : n0 ≤ u1) :
    MF l Z (⟨"com/example/afterlog/afterlog/ListValue", "push", "(Lcom/example/afterlog/afterlog/ListValue$End;[B)V"⟩ : MethodName) (Jvm.Cond.code (⟨"com/example/afterlog/afterlog/ListValue", "push", "(Lcom/example/afterlog/afterlog/ListValue$End;[B)V"⟩ : MethodName) prog_24_method_6_code 3 none) ws ({ frames := 1, cells := 0, slots := 0, locals := 15 } : Room) #[(.ref u1), (.ref w1), (.ref u2)] h0 (Q5_39 Z u1 w1 u2 u3 u4 w2 u5 h0 n0) := by
  refine MetFree.of_bodySF (plainFor_of_name pn_0) hisR ?_
  intro p e s m args below meth c s₁ Bd hml0 hP hK
  obtain ⟨rfl, hZ, hh⟩ := hP
  have hx := Bd.exec
  have hby := Bd.bytes
  have hml : c.maxLocals = 3 := hml0
  have hown : s.vm.findClass "com/example/afterlog/afterlog/ListValue" = some m.cls := findClass_of_methodNamed Bd.named
  have hnm := (name_of_methodNamed Bd.named Bd.method).1
  have X0 : Stand p l e ({ frames := 1, cells := 0, slots := 0, locals := 15 } : Room) s m #[(.ref u1), (.ref w1), (.ref u2)] below meth c s₁ [] 0 0 := Stand.of_body Bd
  have e0 : s₁.heap = h0 := by rw [← hh, Bd.state]; rfl
  have N0 := Fr.nil n0
  have pre0 : ∀ t, SF p e below s₁ (mkF m 0 #[rv u1, rv w1, rv u2] []) t → SF p e below s₁ (entryFrame m #[(.ref u1), (.ref w1), (.ref u2)] 3) t := fun t k => castTop (ef_3 m u1 w1 u2) k
  obtain ⟨T1, X1, e1, st1⟩ := getF X0 hx hZ hown (host := "") (Or.inl (tw hw 19 rfl)) Via.refl e0 P1 (g := (mkF m 1 #[rv u1, rv w1, rv u2] [(.ref u1)])) rfl rfl (hb hby d5_1)
  obtain ⟨T2, X2, e2, st2⟩ := getF X1 hx hZ hown (host := "") (Or.inl (tw hw 12 rfl)) Via.refl e1 P2 (g := (mkF m 5 #[rv u1, rv w1, rv u2] [(.ref u1), (.int 0)])) rfl rfl (hb hby d5_5)
  obtain ⟨cl3, Ar3, q3, S3, N3z, H3⟩ := id P3
  obtain ⟨T4, X4, e4, st4⟩ := getS2 X2 hx hZ hown (host := "") (Or.inl (tw hw 33 rfl)) Via.refl e2 (Sg2.ext P5.2) (g := (mkF m 17 #[rv u1, rv w1, rv u2] [(.ref w1)])) rfl (hb hby d5_17)
  obtain ⟨T5, X5, e5, st5⟩ := getF X4 hx hZ hown (host := "") (Or.inl (tw hw 12 rfl)) Via.refl e4 P2 (g := (mkF m 52 #[rv u1, rv w1, rv u2] [(.ref u1)])) rfl rfl (hb hby d5_52)
  obtain ⟨T6, X6, e6, st6⟩ := getF X5 hx hZ hown (host := "") (Or.inl (tw hw 19 rfl)) Via.refl e5 P1 (g := (mkF m 57 #[rv u1, rv w1, rv u2] [(.ref u1), (.ref u1), (.ref u3)])) rfl rfl (hb hby d5_57)
  obtain ⟨cq7, q7, q7'⟩ := P8.cell
  obtain ⟨_, _, ⟨T7, L7, k7x, n7⟩, -, X7, ⟨Lc7, hQ7, l7, y7, z7⟩, st7⟩ := X6.privateBack hx (y := (⟨"com/example/afterlog/afterlog/ListValue", "slot", "(I)I"⟩ : MethodName)) hown (mvT hZ (tw hw 35 rfl)) (mvT hZ (tw hw 36 rfl)) (own_selP hZ (tw hw 2 rfl) (tw hw 37 rfl) (tw hw 36 rfl) (by decide)) (Cond.privateMethod_at (mvP hZ (tw hw 37 rfl) (args := #[]))) (mvT hZ (tw hw 38 rfl)) (by decide) (backOf (W := 1) (own_slot l Z a0 hw [] u1 u3 u4 u5 (0 : Int32) h0 n0 Z0 P2 P9 P3 P10 ⟨by decide, by decide⟩) hZ (tw hw 38 rfl) (tw hw 3 rfl) (by decide) (by decide)) (g := (mkF m 60 #[rv u1, rv w1, rv u2] [(.int 0), (.ref u1), (.ref u3)])) rfl (by rw [hml]; rfl) (Steps.refl _) (a := u1) (by rw [e6]; exact q7) q7' (argsL := [(.int 0)]) (rest := [(.ref u3)]) (lenOf pd_2 rfl) rfl (by show 2 * 0 + _ ≤ _; exact Nat.le_of_eq rfl) (hb hby d5_60) (fun _ _ => ⟨rfl, e6, (by decide : 0 + 0 ≤ _), (by decide : 0 + 0 ≤ _)⟩)
  dsimp only [Pt.U, Pt.locs, Pt.cells, Pt.slots] at X7 l7 y7 z7 st7 hQ7
  subst l7 y7 z7
  obtain ⟨w6x, bx_i10, rfl, N7q, e7⟩ := hQ7
  have N7 := Fr.app N0 N7q
  obtain ⟨cl8, Ar8, q8, S8, N8z, H8⟩ := id P3
  have hin8 : ¬ (w6x < 0 ∨ cl8.slots.size ≤ (w6x).toNatClampNeg) := inb_of S8 ⟨(bx_i10).1, (bx_i10).2⟩
  obtain ⟨T9, h9, X9, e9, W9, st9⟩ := stR X7 hx hZ e7 Ar8 (j := w6x) hin8 rfl (Sto.ofVA Ar8 q8 P12 (Ins.self P13)) (g := (mkF m 64 #[rv u1, rv w1, rv u2] [(.ref u2), (.int w6x), (.ref u3)])) rfl rfl (hb hby d5_64)
  have K9 : Keep h0 h9 [u3, u1] := (Keep.refl h0 [u3, u1]).wr W9 (Or.inl (List.mem_of_getElem? (i := 0) rfl))
  have N9 := Fr.snoc X9 N7 P14
  have V9 : Ary Z h9 u3 u4 (.array .byte) (8 : Int32) := Ary.set Ar8 q8 S8 N8z H8 rfl W9
  have F1_10 : Fld Z h9 u1 "com/example/afterlog/afterlog/ListValue" "size" "I" (.int 0) := P1.other W9 (Or.inl P15)
  obtain ⟨T11, X11, e11, st11⟩ := getF X9 hx hZ hown (host := "") (Or.inl (tw hw 19 rfl)) Via.refl e9 F1_10 (g := (mkF m 67 #[rv u1, rv w1, rv u2] [(.ref u1), (.ref u1)])) rfl rfl (hb hby d5_67)
  have F1_12 : Exa Z h9 u1 "com/example/afterlog/afterlog/ListValue" := P8.wr W9
  have F1_13 : Fld Z h9 u1 "com/example/afterlog/afterlog/ListValue" "elements" "[[B" (.ref u3) := P2.other W9 (Or.inl P15)
  have F1_14 : Fld Z h9 u1 "com/example/afterlog/afterlog/ListValue" "head" "I" (.int u5) := P9.other W9 (Or.inl P15)
  obtain ⟨T15, h15, X15, e15, W15, st15⟩ := putF X11 hx hZ hown (host := "") (Or.inl (tw hw 19 rfl)) Via.refl e11 F1_10 F1_12 (Or.inl (tw hw 20 rfl)) (tw hw 2 rfl) (ty := .int) (by decide) rfl rfl (g := (mkF m 72 #[rv u1, rv w1, rv u2] [(.int 1), (.ref u1)])) rfl rfl (hb hby d5_72)
  have K15 : Keep h0 h15 [u3, u1] := K9.wr W15 (Or.inl (List.mem_of_getElem? (i := 1) rfl))
  have N15 := Fr.snoc X15 N9 P16
  have Fw15 : Fld Z h15 u1 "com/example/afterlog/afterlog/ListValue" "size" "I" (.int 1) := F1_10.same W15
  have F2_16 : Ary Z h15 u3 u4 (.array .byte) (8 : Int32) := V9.other W15 (Ne.symm P15)
  have F1_17 : Exa Z h9 u3 "[[B" := P11.wr W9
  have F2_18 : Exa Z h15 u3 "[[B" := F1_17.wr W15
  have F2_19 : Fld Z h15 u1 "com/example/afterlog/afterlog/ListValue" "elements" "[[B" (.ref u3) := F1_13.other W15 (Or.inr (slot_ne (Or.inl (tw hw 13 rfl)) (Or.inl (tw hw 20 rfl)) (by decide) (t := (.array (.array .byte))) (t' := .int) (by decide) (by decide)))
  have F2_20 : Exa Z h15 u1 "com/example/afterlog/afterlog/ListValue" := F1_12.wr W15
  have F2_21 : Fld Z h15 u1 "com/example/afterlog/afterlog/ListValue" "head" "I" (.int u5) := F1_14.other W15 (Or.inr (slot_ne (Or.inl (tw hw 40 rfl)) (Or.inl (tw hw 20 rfl)) (by decide) (t := .int) (t' := .int) (by decide) (by decide)))
  obtain ⟨fs, hr, hrun, hended, hW, hsame⟩ := X15.leave (v := none) (fun _ => rfl)
  refine ⟨_, _, pre0 _ ?_, hrun, hended, _, _, rfl, ?_, ⟨_, rfl⟩, hW, hsame.mono (by decide) (by decide)⟩
  · show SF p e below s₁ (mkF m 0 #[rv u1, rv w1, rv u2] []) _
    refine XS.aloadN X0.here hx rfl (hb hby d5_0) rfl rfl ?_
    show SF p e below s₁ (mkF m 1 #[rv u1, rv w1, rv u2] [(.ref u1)]) _
    refine st1 _ ?_
    show SF p e below T1 (mkF m 4 #[rv u1, rv w1, rv u2] [(.int 0)]) _
    refine XS.aloadN X1.here hx rfl (hb hby d5_4) rfl rfl ?_
    show SF p e below T1 (mkF m 5 #[rv u1, rv w1, rv u2] [(.ref u1), (.int 0)]) _
    refine st2 _ ?_
    show SF p e below T2 (mkF m 8 #[rv u1, rv w1, rv u2] [(.ref u3), (.int 0)]) _
    refine X2.arraylength hx (by rw [e2]; exact Ar3.1) (State.isArrayOf_alike hZ.alike Ar3.2.1) (g := (mkF m 8 #[rv u1, rv w1, rv u2] [(.ref u3), (.int 0)])) rfl rfl (hb hby d5_8) _ ?_
    rw [len_of S3 N3z]
    show SF p e below T2 (mkF m 9 #[rv u1, rv w1, rv u2] [(.int 8), (.int 0)]) _
    refine XS.icmpYes X2.here hx rfl (pc0 := 9) (pc' := 16) rfl (hb hby d5_9) rfl (feq (by decide : ¬ ((0 : Int32) = (8 : Int32)))).2 (by decide) (by decide) ?_
    show SF p e below T2 (mkF m 16 #[rv u1, rv w1, rv u2] []) _
    refine XS.aloadN X2.here hx rfl (hb hby d5_16) rfl rfl ?_
    show SF p e below T2 (mkF m 17 #[rv u1, rv w1, rv u2] [(.ref w1)]) _
    refine st4 _ ?_
    show SF p e below T4 (mkF m 20 #[rv u1, rv w1, rv u2] [(.ref w2), (.ref w1)]) _
    refine Jvm.RoadKit.acmp (g := (mkF m 20 #[rv u1, rv w1, rv u2] [(.ref w2), (.ref w1)])) X4 hx rfl rfl rfl (pc0 := 20) (pc' := 51) (same := false) rfl (hb hby d5_20) rfl (decide_eq_false fun q => (Fld.ne F_w1_ordinal F_w2_ordinal (by decide)) (Value.ref.inj q)) (by decide) (by decide) ?_
    show SF p e below T4 (mkF m 51 #[rv u1, rv w1, rv u2] []) _
    refine XS.aloadN X4.here hx rfl (hb hby d5_51) rfl rfl ?_
    show SF p e below T4 (mkF m 52 #[rv u1, rv w1, rv u2] [(.ref u1)]) _
    refine st5 _ ?_
    show SF p e below T5 (mkF m 55 #[rv u1, rv w1, rv u2] [(.ref u3)]) _
    refine XS.aloadN X5.here hx rfl (hb hby d5_55) rfl rfl ?_
    show SF p e below T5 (mkF m 56 #[rv u1, rv w1, rv u2] [(.ref u1), (.ref u3)]) _
    refine XS.aloadN X5.here hx rfl (hb hby d5_56) rfl rfl ?_
    show SF p e below T5 (mkF m 57 #[rv u1, rv w1, rv u2] [(.ref u1), (.ref u1), (.ref u3)]) _
    refine st6 _ ?_
    show SF p e below T6 (mkF m 60 #[rv u1, rv w1, rv u2] [(.int 0), (.ref u1), (.ref u3)]) _
    refine st7.trans ?_
    show SF p e below T7 (mkF m 63 #[rv u1, rv w1, rv u2] [(.int w6x), (.ref u3)]) _
    refine XS.aloadN X7.here hx rfl (hb hby d5_63) rfl rfl ?_
    show SF p e below T7 (mkF m 64 #[rv u1, rv w1, rv u2] [(.ref u2), (.int w6x), (.ref u3)]) _
    refine st9 _ ?_
    show SF p e below T9 (mkF m 65 #[rv u1, rv w1, rv u2] []) _
    refine XS.aloadN X9.here hx rfl (hb hby d5_65) rfl rfl ?_
    show SF p e below T9 (mkF m 66 #[rv u1, rv w1, rv u2] [(.ref u1)]) _
    refine XS.dup X9.here hx rfl (hb hby d5_66) rfl rfl ?_
    show SF p e below T9 (mkF m 67 #[rv u1, rv w1, rv u2] [(.ref u1), (.ref u1)]) _
    refine st11 _ ?_
    show SF p e below T11 (mkF m 70 #[rv u1, rv w1, rv u2] [(.int 0), (.ref u1)]) _
    refine XS.iconst X11.here hx rfl (hb hby d5_70) ?_
    show SF p e below T11 (mkF m 71 #[rv u1, rv w1, rv u2] [(.int 1), (.int 0), (.ref u1)]) _
    refine XS.iadd X11.here hx rfl (hb hby d5_71) rfl ?_
    show SF p e below T11 (mkF m 72 #[rv u1, rv w1, rv u2] [(.int ((0 : Int32) + (1 : Int32))), (.ref u1)]) _
    rw [show ((0 : Int32) + (1 : Int32)) = (1 : Int32) from by decide]
    show SF p e below T11 (mkF m 72 #[rv u1, rv w1, rv u2] [(.int 1), (.ref u1)]) _
    refine st15 _ ?_
    show SF p e below T15 (mkF m 75 #[rv u1, rv w1, rv u2] []) _
    exact X15.returnOut hx Bd.returns (hb hby d5_75) hr
  · show Q5_39 Z u1 w1 u2 u3 u4 w2 u5 h0 n0 _ T15.heap _
    rw [e15]
    exact ⟨rfl, N15, K15, F2_16, F2_18, Fw15, F2_19, F2_20, F2_21⟩
-- ListValueIsEmptyPinLaw.step 
def Q4_40 (Z : State) (u1 : Addr) (u2 : Int32) (u3 : Addr) (w1 : Addr) (u4 : Addr) (u5 : ClassId) (w2 : Addr) (u6 : Int32) (h0 : Heap) (n0 : Nat) (v : Option Value) (h : Heap) (L : List Loc) : Prop := v = some (.int 1) ∧ Fr n0 L ∧ Keep h0 h [u4, u1] ∧ Exa Z h u4 "[[B" ∧ Ary Z h u4 u5 (.array .byte) (8 : Int32) ∧ Exa Z h u1 "com/example/afterlog/afterlog/ListValue" ∧ Fld Z h u1 "com/example/afterlog/afterlog/ListValue" "size" "I" (.int 1) ∧ Fld Z h u1 "com/example/afterlog/afterlog/ListValue" "elements" "[[B" (.ref u4) ∧ Fld Z h u1 "com/example/afterlog/afterlog/ListValue" "head" "I" (.int u6)
set_option maxRecDepth 65536 in
set_option maxHeartbeats 40000000 in
theorem rm4_40 (l : Launch) (Z : State) (a0 : Array Value) (hw : HW Z a0) (ws : List Jvm.Cond) (u1 : Addr) (u2 : Int32) (u3 : Addr) (w1 : Addr) (u4 : Addr) (u5 : ClassId) (w2 : Addr) (u6 : Int32) (h0 : Heap) (n0 : Nat) (Z0 : n0 ≤ h0.size) (P1 : (u2 &&& (2 : Int32)) = (0 : Int32)) (Sg0 : Sta Z Z.heap "com/example/afterlog/afterlog/ListValue$End" "TAIL" "Lcom/example/afterlog/afterlog/ListValue$End;" (.ref w1)) (P3 : Old Z n0 h0) (P4 : (u2 &&& (1 : Int32)) = (0 : Int32)) (P5 : Exa Z h0 u1 "com/example/afterlog/afterlog/ListValue") (P6 : Fld Z h0 u1 "com/example/afterlog/afterlog/ListValue" "size" "I" (.int 0)) (P7 : Fld Z h0 u1 "com/example/afterlog/afterlog/ListValue" "elements" "[[B" (.ref u4)) (P8 : Ary Z h0 u4 u5 (.array .byte) (8 : Int32)) (Sg2 : Sta Z Z.heap "com/example/afterlog/afterlog/ListValue$End" "HEAD" "Lcom/example/afterlog/afterlog/ListValue$End;" (.ref w2)) (F_w1_ordinal : Fld Z Z.heap w1 "java/lang/Enum" "ordinal" "I" (.int 1)) (F_w2_ordinal : Fld Z Z.heap w2 "java/lang/Enum" "ordinal" "I" (.int 0)) (P12 : Fld Z h0 u1 "com/example/afterlog/afterlog/ListValue" "head" "I" (.int u6)) (P13 : ¬ u6 < (0 : Int32) ∧ u6 < (8 : Int32)) (P14 : Exa Z h0 u4 "[[B") (P15 : OvrA Z u5 .byte "[B") (P16 : Exa Z h0 u3 "[B") (P17 : n0 ≤ u4) (P18 : u1 ≠ u4) (P19 : n0 ≤ u1) :
    MF l Z (⟨"com/example/afterlog/afterlog/ListValueIsEmptyPinLaw", "step", "(Lcom/example/afterlog/afterlog/ListValue;II[B)I"⟩ : MethodName) (Jvm.Cond.code (⟨"com/example/afterlog/afterlog/ListValueIsEmptyPinLaw", "step", "(Lcom/example/afterlog/afterlog/ListValue;II[B)I"⟩ : MethodName) method_3_code 5 (some .int)) ws ({ frames := 2, cells := 0, slots := 0, locals := 29 } : Room) #[(.ref u1), (.int 0), (.int u2), (.ref u3)] h0 (Q4_40 Z u1 u2 u3 w1 u4 u5 w2 u6 h0 n0) := by
  refine MetFree.of_bodySF (plainFor_of_name pn_1) hisR ?_
  intro p e s m args below meth c s₁ Bd hml0 hP hK
  obtain ⟨rfl, hZ, hh⟩ := hP
  have hx := Bd.exec
  have hby := Bd.bytes
  have hml : c.maxLocals = 5 := hml0
  have hown : s.vm.findClass "com/example/afterlog/afterlog/ListValueIsEmptyPinLaw" = some m.cls := findClass_of_methodNamed Bd.named
  have hnm := (name_of_methodNamed Bd.named Bd.method).1
  have X0 : Stand p l e ({ frames := 2, cells := 0, slots := 0, locals := 29 } : Room) s m #[(.ref u1), (.int 0), (.int u2), (.ref u3)] below meth c s₁ [] 0 0 := Stand.of_body Bd
  have e0 : s₁.heap = h0 := by rw [← hh, Bd.state]; rfl
  have N0 := Fr.nil n0
  have pre0 : ∀ t, SF p e below s₁ (mkF m 0 #[rv u1, iv 0, iv u2, rv u3, .unset] []) t → SF p e below s₁ (entryFrame m #[(.ref u1), (.int 0), (.int u2), (.ref u3)] 5) t := fun t k => castTop (ef_4 m u1 (0 : Int32) u2 u3) k
  obtain ⟨T1, X1, e1, st1⟩ := getS2 X0 hx hZ hown (host := "") (Or.inl (tw hw 25 rfl)) Via.refl e0 (Sg0.ext P3.2) (g := (mkF m 12 #[rv u1, iv 0, iv u2, rv u3, .unset] [])) rfl (hb hby d4_12)
  obtain ⟨cq2, kq2, q2a, q2b, q2c⟩ := isOf hZ e1 P5
  obtain ⟨_, _, ⟨T2, L2, k2x, n2⟩, -, X2, ⟨Lc2, hQ2, l2, y2, z2⟩, st2⟩ := X1.virtualBack hx (y := (⟨"com/example/afterlog/afterlog/ListValue", "push", "(Lcom/example/afterlog/afterlog/ListValue$End;[B)V"⟩ : MethodName)) (z := (⟨"com/example/afterlog/afterlog/ListValue", "push", "(Lcom/example/afterlog/afterlog/ListValue$End;[B)V"⟩ : MethodName)) hown (mvT hZ (tw hw 28 rfl)) (mvT hZ (tw hw 29 rfl)) (notFace_of_selects (args := #[]) (mvT hZ (tw hw 31 rfl))) (mvT hZ (tw hw 31 rfl)) (mvT hZ (tw hw 30 rfl)) (by decide) (backOf (W := 0) (rm5_39 l Z a0 hw [] u1 w1 u3 u4 u5 w2 u6 h0 n0 Z0 P6 P7 P8 Sg2 P3 F_w1_ordinal F_w2_ordinal P5 P12 P13 P14 P15 P16 P17 P18 P19) hZ (tw hw 32 rfl) (tw hw 3 rfl) (by decide) (by decide)) q2a q2c (g := (mkF m 42 #[rv u1, iv 0, iv u2, rv u3, rv w1] [(.ref u3), (.ref w1), (.ref u1)])) rfl (by rw [hml]; rfl) (Steps.refl _) (argsL := [(.ref w1), (.ref u3)]) (rest := []) (lenOf pd_3 rfl) rfl (by show 2 * 0 + _ ≤ _; exact Nat.le_of_eq rfl) (hb hby d4_42) (fun _ _ => ⟨rfl, e1, (by decide : 0 + 0 ≤ _), (by decide : 0 + 0 ≤ _)⟩)
  dsimp only [Pt.U, Pt.locs, Pt.cells, Pt.slots] at X2 l2 y2 z2 st2 hQ2
  subst l2 y2 z2
  obtain ⟨rfl, N2q, K2c, Fq2_0, Fq2_1, Fq2_2, Fq2_3, Fq2_4, Fq2_5⟩ := hQ2
  have K2 : Keep h0 T2.heap [u4, u1] := (Keep.refl h0 [u4, u1]).trans K2c (allS (Or.inl (List.mem_of_getElem? (i := 0) rfl)) (allS (Or.inl (List.mem_of_getElem? (i := 1) rfl)) all0))
  have N2 := Fr.app N0 N2q
  obtain ⟨fs, hr, hrun, hended, hW, hsame⟩ := X2.leave (v := some (.int 1)) (fun h => by rw [Bd.returns] at h; cases h)
  refine ⟨_, _, pre0 _ ?_, hrun, hended, _, _, rfl, ?_, ⟨_, rfl⟩, hW, hsame.mono (by decide) (by decide)⟩
  · show SF p e below s₁ (mkF m 0 #[rv u1, iv 0, iv u2, rv u3, .unset] []) _
    refine XS.iloadN X0.here hx rfl (hb hby d4_0) rfl ?_
    show SF p e below s₁ (mkF m 1 #[rv u1, iv 0, iv u2, rv u3, .unset] [(.int u2)]) _
    refine XS.iconst X0.here hx rfl (hb hby d4_1) ?_
    show SF p e below s₁ (mkF m 2 #[rv u1, iv 0, iv u2, rv u3, .unset] [(.int 2), (.int u2)]) _
    refine XS.iand X0.here hx rfl (hb hby d4_2) rfl ?_
    show SF p e below s₁ (mkF m 3 #[rv u1, iv 0, iv u2, rv u3, .unset] [(.int (u2 &&& (2 : Int32)))]) _
    refine XS.ifYes X0.here hx rfl (pc0 := 3) (pc' := 12) rfl (hb hby d4_3) rfl ((if0 _ _).trans (teq P1).1) (by decide) (by decide) ?_
    show SF p e below s₁ (mkF m 12 #[rv u1, iv 0, iv u2, rv u3, .unset] []) _
    refine st1 _ ?_
    show SF p e below T1 (mkF m 15 #[rv u1, iv 0, iv u2, rv u3, .unset] [(.ref w1)]) _
    refine XS.astore X1.here hx rfl (hb hby d4_15) rfl rfl (l' := #[rv u1, iv 0, iv u2, rv u3, rv w1]) rfl ?_
    show SF p e below T1 (mkF m 17 #[rv u1, iv 0, iv u2, rv u3, rv w1] []) _
    refine XS.iloadN X1.here hx rfl (hb hby d4_17) rfl ?_
    show SF p e below T1 (mkF m 18 #[rv u1, iv 0, iv u2, rv u3, rv w1] [(.int u2)]) _
    refine XS.iconst X1.here hx rfl (hb hby d4_18) ?_
    show SF p e below T1 (mkF m 19 #[rv u1, iv 0, iv u2, rv u3, rv w1] [(.int 1), (.int u2)]) _
    refine XS.iand X1.here hx rfl (hb hby d4_19) rfl ?_
    show SF p e below T1 (mkF m 20 #[rv u1, iv 0, iv u2, rv u3, rv w1] [(.int (u2 &&& (1 : Int32)))]) _
    refine XS.ifYes X1.here hx rfl (pc0 := 20) (pc' := 38) rfl (hb hby d4_20) rfl ((if0 _ _).trans (teq P4).1) (by decide) (by decide) ?_
    show SF p e below T1 (mkF m 38 #[rv u1, iv 0, iv u2, rv u3, rv w1] []) _
    refine XS.aloadN X1.here hx rfl (hb hby d4_38) rfl rfl ?_
    show SF p e below T1 (mkF m 39 #[rv u1, iv 0, iv u2, rv u3, rv w1] [(.ref u1)]) _
    refine XS.aload X1.here hx rfl (hb hby d4_39) rfl rfl ?_
    show SF p e below T1 (mkF m 41 #[rv u1, iv 0, iv u2, rv u3, rv w1] [(.ref w1), (.ref u1)]) _
    refine XS.aloadN X1.here hx rfl (hb hby d4_41) rfl rfl ?_
    show SF p e below T1 (mkF m 42 #[rv u1, iv 0, iv u2, rv u3, rv w1] [(.ref u3), (.ref w1), (.ref u1)]) _
    refine st2.trans ?_
    show SF p e below T2 (mkF m 45 #[rv u1, iv 0, iv u2, rv u3, rv w1] []) _
    refine XS.iloadN X2.here hx rfl (hb hby d4_45) rfl ?_
    show SF p e below T2 (mkF m 46 #[rv u1, iv 0, iv u2, rv u3, rv w1] [(.int 0)]) _
    refine XS.iconst X2.here hx rfl (hb hby d4_46) ?_
    show SF p e below T2 (mkF m 47 #[rv u1, iv 0, iv u2, rv u3, rv w1] [(.int 1), (.int 0)]) _
    refine XS.iadd X2.here hx rfl (hb hby d4_47) rfl ?_
    show SF p e below T2 (mkF m 48 #[rv u1, iv 0, iv u2, rv u3, rv w1] [(.int ((0 : Int32) + (1 : Int32)))]) _
    rw [show ((0 : Int32) + (1 : Int32)) = (1 : Int32) from by decide]
    show SF p e below T2 (mkF m 48 #[rv u1, iv 0, iv u2, rv u3, rv w1] [(.int 1)]) _
    exact retI X2 hx Bd.returns (hb hby d4_48) hr
  · show Q4_40 Z u1 u2 u3 w1 u4 u5 w2 u6 h0 n0 _ T2.heap _
    exact ⟨rfl, N2, K2, Fq2_1, Fq2_0, Fq2_4, Fq2_2, Fq2_3, Fq2_5⟩
-- ListValueIsEmptyPinLaw.step 
def Q4_41 (Z : State) (u1 : Addr) (u2 : Int32) (u3 : Addr) (w1 : Addr) (u4 : Addr) (u5 : ClassId) (w2 : Addr) (u6 : Int32) (h0 : Heap) (n0 : Nat) (v : Option Value) (h : Heap) (L : List Loc) : Prop := v = some (.int 1) ∧ Fr n0 L ∧ Keep h0 h [u4, u1] ∧ Exa Z h u4 "[[B" ∧ Ary Z h u4 u5 (.array .byte) (8 : Int32) ∧ Exa Z h u1 "com/example/afterlog/afterlog/ListValue" ∧ Fld Z h u1 "com/example/afterlog/afterlog/ListValue" "size" "I" (.int 1) ∧ Fld Z h u1 "com/example/afterlog/afterlog/ListValue" "elements" "[[B" (.ref u4) ∧ Fld Z h u1 "com/example/afterlog/afterlog/ListValue" "head" "I" (.int u6)
set_option maxRecDepth 65536 in
set_option maxHeartbeats 40000000 in
theorem rm4_41 (l : Launch) (Z : State) (a0 : Array Value) (hw : HW Z a0) (ws : List Jvm.Cond) (u1 : Addr) (u2 : Int32) (u3 : Addr) (w1 : Addr) (u4 : Addr) (u5 : ClassId) (w2 : Addr) (u6 : Int32) (h0 : Heap) (n0 : Nat) (Z0 : n0 ≤ h0.size) (P1 : (u2 &&& (2 : Int32)) = (0 : Int32)) (Sg0 : Sta Z Z.heap "com/example/afterlog/afterlog/ListValue$End" "TAIL" "Lcom/example/afterlog/afterlog/ListValue$End;" (.ref w1)) (P3 : Old Z n0 h0) (P4 : ¬ ((u2 &&& (1 : Int32)) = (0 : Int32))) (P5 : Exa Z h0 u1 "com/example/afterlog/afterlog/ListValue") (P6 : Fld Z h0 u1 "com/example/afterlog/afterlog/ListValue" "size" "I" (.int 0)) (P7 : Fld Z h0 u1 "com/example/afterlog/afterlog/ListValue" "elements" "[[B" (.ref u4)) (P8 : Ary Z h0 u4 u5 (.array .byte) (8 : Int32)) (Sg2 : Sta Z Z.heap "com/example/afterlog/afterlog/ListValue$End" "HEAD" "Lcom/example/afterlog/afterlog/ListValue$End;" (.ref w2)) (F_w1_ordinal : Fld Z Z.heap w1 "java/lang/Enum" "ordinal" "I" (.int 1)) (F_w2_ordinal : Fld Z Z.heap w2 "java/lang/Enum" "ordinal" "I" (.int 0)) (P12 : Fld Z h0 u1 "com/example/afterlog/afterlog/ListValue" "head" "I" (.int u6)) (P13 : ¬ u6 < (0 : Int32) ∧ u6 < (8 : Int32)) (P14 : Exa Z h0 u4 "[[B") (P15 : OvrA Z u5 .byte "[B") (P16 : Exa Z h0 u3 "[B") (P17 : n0 ≤ u4) (P18 : u1 ≠ u4) (P19 : n0 ≤ u1) :
    MF l Z (⟨"com/example/afterlog/afterlog/ListValueIsEmptyPinLaw", "step", "(Lcom/example/afterlog/afterlog/ListValue;II[B)I"⟩ : MethodName) (Jvm.Cond.code (⟨"com/example/afterlog/afterlog/ListValueIsEmptyPinLaw", "step", "(Lcom/example/afterlog/afterlog/ListValue;II[B)I"⟩ : MethodName) method_3_code 5 (some .int)) ws ({ frames := 2, cells := 0, slots := 0, locals := 29 } : Room) #[(.ref u1), (.int 0), (.int u2), (.ref u3)] h0 (Q4_41 Z u1 u2 u3 w1 u4 u5 w2 u6 h0 n0) := by
  refine MetFree.of_bodySF (plainFor_of_name pn_1) hisR ?_
  intro p e s m args below meth c s₁ Bd hml0 hP hK
  obtain ⟨rfl, hZ, hh⟩ := hP
  have hx := Bd.exec
  have hby := Bd.bytes
  have hml : c.maxLocals = 5 := hml0
  have hown : s.vm.findClass "com/example/afterlog/afterlog/ListValueIsEmptyPinLaw" = some m.cls := findClass_of_methodNamed Bd.named
  have hnm := (name_of_methodNamed Bd.named Bd.method).1
  have X0 : Stand p l e ({ frames := 2, cells := 0, slots := 0, locals := 29 } : Room) s m #[(.ref u1), (.int 0), (.int u2), (.ref u3)] below meth c s₁ [] 0 0 := Stand.of_body Bd
  have e0 : s₁.heap = h0 := by rw [← hh, Bd.state]; rfl
  have N0 := Fr.nil n0
  have pre0 : ∀ t, SF p e below s₁ (mkF m 0 #[rv u1, iv 0, iv u2, rv u3, .unset] []) t → SF p e below s₁ (entryFrame m #[(.ref u1), (.int 0), (.int u2), (.ref u3)] 5) t := fun t k => castTop (ef_4 m u1 (0 : Int32) u2 u3) k
  obtain ⟨T1, X1, e1, st1⟩ := getS2 X0 hx hZ hown (host := "") (Or.inl (tw hw 25 rfl)) Via.refl e0 (Sg0.ext P3.2) (g := (mkF m 12 #[rv u1, iv 0, iv u2, rv u3, .unset] [])) rfl (hb hby d4_12)
  obtain ⟨cq2, kq2, q2a, q2b, q2c⟩ := isOf hZ e1 P5
  obtain ⟨_, _, ⟨T2, L2, k2x, n2⟩, -, X2, ⟨Lc2, hQ2, l2, y2, z2⟩, st2⟩ := X1.virtualBack hx (y := (⟨"com/example/afterlog/afterlog/ListValue", "push", "(Lcom/example/afterlog/afterlog/ListValue$End;[B)V"⟩ : MethodName)) (z := (⟨"com/example/afterlog/afterlog/ListValue", "push", "(Lcom/example/afterlog/afterlog/ListValue$End;[B)V"⟩ : MethodName)) hown (mvT hZ (tw hw 28 rfl)) (mvT hZ (tw hw 29 rfl)) (notFace_of_selects (args := #[]) (mvT hZ (tw hw 31 rfl))) (mvT hZ (tw hw 31 rfl)) (mvT hZ (tw hw 30 rfl)) (by decide) (backOf (W := 0) (rm5_39 l Z a0 hw [] u1 w1 u3 u4 u5 w2 u6 h0 n0 Z0 P6 P7 P8 Sg2 P3 F_w1_ordinal F_w2_ordinal P5 P12 P13 P14 P15 P16 P17 P18 P19) hZ (tw hw 32 rfl) (tw hw 3 rfl) (by decide) (by decide)) q2a q2c (g := (mkF m 42 #[rv u1, iv 0, iv u2, rv u3, rv w1] [(.ref u3), (.ref w1), (.ref u1)])) rfl (by rw [hml]; rfl) (Steps.refl _) (argsL := [(.ref w1), (.ref u3)]) (rest := []) (lenOf pd_3 rfl) rfl (by show 2 * 0 + _ ≤ _; exact Nat.le_of_eq rfl) (hb hby d4_42) (fun _ _ => ⟨rfl, e1, (by decide : 0 + 0 ≤ _), (by decide : 0 + 0 ≤ _)⟩)
  dsimp only [Pt.U, Pt.locs, Pt.cells, Pt.slots] at X2 l2 y2 z2 st2 hQ2
  subst l2 y2 z2
  obtain ⟨rfl, N2q, K2c, Fq2_0, Fq2_1, Fq2_2, Fq2_3, Fq2_4, Fq2_5⟩ := hQ2
  have K2 : Keep h0 T2.heap [u4, u1] := (Keep.refl h0 [u4, u1]).trans K2c (allS (Or.inl (List.mem_of_getElem? (i := 0) rfl)) (allS (Or.inl (List.mem_of_getElem? (i := 1) rfl)) all0))
  have N2 := Fr.app N0 N2q
  obtain ⟨fs, hr, hrun, hended, hW, hsame⟩ := X2.leave (v := some (.int 1)) (fun h => by rw [Bd.returns] at h; cases h)
  refine ⟨_, _, pre0 _ ?_, hrun, hended, _, _, rfl, ?_, ⟨_, rfl⟩, hW, hsame.mono (by decide) (by decide)⟩
  · show SF p e below s₁ (mkF m 0 #[rv u1, iv 0, iv u2, rv u3, .unset] []) _
    refine XS.iloadN X0.here hx rfl (hb hby d4_0) rfl ?_
    show SF p e below s₁ (mkF m 1 #[rv u1, iv 0, iv u2, rv u3, .unset] [(.int u2)]) _
    refine XS.iconst X0.here hx rfl (hb hby d4_1) ?_
    show SF p e below s₁ (mkF m 2 #[rv u1, iv 0, iv u2, rv u3, .unset] [(.int 2), (.int u2)]) _
    refine XS.iand X0.here hx rfl (hb hby d4_2) rfl ?_
    show SF p e below s₁ (mkF m 3 #[rv u1, iv 0, iv u2, rv u3, .unset] [(.int (u2 &&& (2 : Int32)))]) _
    refine XS.ifYes X0.here hx rfl (pc0 := 3) (pc' := 12) rfl (hb hby d4_3) rfl ((if0 _ _).trans (teq P1).1) (by decide) (by decide) ?_
    show SF p e below s₁ (mkF m 12 #[rv u1, iv 0, iv u2, rv u3, .unset] []) _
    refine st1 _ ?_
    show SF p e below T1 (mkF m 15 #[rv u1, iv 0, iv u2, rv u3, .unset] [(.ref w1)]) _
    refine XS.astore X1.here hx rfl (hb hby d4_15) rfl rfl (l' := #[rv u1, iv 0, iv u2, rv u3, rv w1]) rfl ?_
    show SF p e below T1 (mkF m 17 #[rv u1, iv 0, iv u2, rv u3, rv w1] []) _
    refine XS.iloadN X1.here hx rfl (hb hby d4_17) rfl ?_
    show SF p e below T1 (mkF m 18 #[rv u1, iv 0, iv u2, rv u3, rv w1] [(.int u2)]) _
    refine XS.iconst X1.here hx rfl (hb hby d4_18) ?_
    show SF p e below T1 (mkF m 19 #[rv u1, iv 0, iv u2, rv u3, rv w1] [(.int 1), (.int u2)]) _
    refine XS.iand X1.here hx rfl (hb hby d4_19) rfl ?_
    show SF p e below T1 (mkF m 20 #[rv u1, iv 0, iv u2, rv u3, rv w1] [(.int (u2 &&& (1 : Int32)))]) _
    refine XS.ifNo X1.here hx rfl (hb hby d4_20) rfl ((if0 _ _).trans (feq P4).1) ?_
    show SF p e below T1 (mkF m 23 #[rv u1, iv 0, iv u2, rv u3, rv w1] []) _
    refine XS.iloadN X1.here hx rfl (hb hby d4_23) rfl ?_
    show SF p e below T1 (mkF m 24 #[rv u1, iv 0, iv u2, rv u3, rv w1] [(.int 0)]) _
    refine XS.ifYes X1.here hx rfl (pc0 := 24) (pc' := 38) rfl (hb hby d4_24) rfl ((if0 _ _).trans (flt (by decide : ¬ ((0 : Int32) < (0 : Int32)))).2.2.2) (by decide) (by decide) ?_
    show SF p e below T1 (mkF m 38 #[rv u1, iv 0, iv u2, rv u3, rv w1] []) _
    refine XS.aloadN X1.here hx rfl (hb hby d4_38) rfl rfl ?_
    show SF p e below T1 (mkF m 39 #[rv u1, iv 0, iv u2, rv u3, rv w1] [(.ref u1)]) _
    refine XS.aload X1.here hx rfl (hb hby d4_39) rfl rfl ?_
    show SF p e below T1 (mkF m 41 #[rv u1, iv 0, iv u2, rv u3, rv w1] [(.ref w1), (.ref u1)]) _
    refine XS.aloadN X1.here hx rfl (hb hby d4_41) rfl rfl ?_
    show SF p e below T1 (mkF m 42 #[rv u1, iv 0, iv u2, rv u3, rv w1] [(.ref u3), (.ref w1), (.ref u1)]) _
    refine st2.trans ?_
    show SF p e below T2 (mkF m 45 #[rv u1, iv 0, iv u2, rv u3, rv w1] []) _
    refine XS.iloadN X2.here hx rfl (hb hby d4_45) rfl ?_
    show SF p e below T2 (mkF m 46 #[rv u1, iv 0, iv u2, rv u3, rv w1] [(.int 0)]) _
    refine XS.iconst X2.here hx rfl (hb hby d4_46) ?_
    show SF p e below T2 (mkF m 47 #[rv u1, iv 0, iv u2, rv u3, rv w1] [(.int 1), (.int 0)]) _
    refine XS.iadd X2.here hx rfl (hb hby d4_47) rfl ?_
    show SF p e below T2 (mkF m 48 #[rv u1, iv 0, iv u2, rv u3, rv w1] [(.int ((0 : Int32) + (1 : Int32)))]) _
    rw [show ((0 : Int32) + (1 : Int32)) = (1 : Int32) from by decide]
    show SF p e below T2 (mkF m 48 #[rv u1, iv 0, iv u2, rv u3, rv w1] [(.int 1)]) _
    exact retI X2 hx Bd.returns (hb hby d4_48) hr
  · show Q4_41 Z u1 u2 u3 w1 u4 u5 w2 u6 h0 n0 _ T2.heap _
    exact ⟨rfl, N2, K2, Fq2_1, Fq2_0, Fq2_4, Fq2_2, Fq2_3, Fq2_5⟩
-- ListValue.push 
def Q5_42 (Z : State) (u1 : Addr) (w2 : Addr) (u2 : Addr) (u3 : Addr) (u4 : ClassId) (u5 : Int32) (h0 : Heap) (n0 : Nat) (v : Option Value) (h : Heap) (L : List Loc) : Prop := ∃ e1x : Int32, (¬ e1x < (0 : Int32) ∧ e1x < (8 : Int32)) ∧ v = none ∧ Fr n0 L ∧ Keep h0 h [u1, u3] ∧ Fld Z h u1 "com/example/afterlog/afterlog/ListValue" "size" "I" (.int 1) ∧ Fld Z h u1 "com/example/afterlog/afterlog/ListValue" "elements" "[[B" (.ref u3) ∧ Exa Z h u1 "com/example/afterlog/afterlog/ListValue" ∧ Fld Z h u1 "com/example/afterlog/afterlog/ListValue" "head" "I" (.int e1x) ∧ Ary Z h u3 u4 (.array .byte) (8 : Int32) ∧ Exa Z h u3 "[[B"
set_option maxRecDepth 65536 in
set_option maxHeartbeats 40000000 in
theorem rm5_42 (l : Launch) (Z : State) (a0 : Array Value) (hw : HW Z a0) (ws : List Jvm.Cond) (u1 : Addr) (w2 : Addr) (u2 : Addr) (u3 : Addr) (u4 : ClassId) (u5 : Int32) (h0 : Heap) (n0 : Nat) (Z0 : n0 ≤ h0.size) (P1 : Fld Z h0 u1 "com/example/afterlog/afterlog/ListValue" "size" "I" (.int 0)) (P2 : Fld Z h0 u1 "com/example/afterlog/afterlog/ListValue" "elements" "[[B" (.ref u3)) (P3 : Ary Z h0 u3 u4 (.array .byte) (8 : Int32)) (Sg2 : Sta Z Z.heap "com/example/afterlog/afterlog/ListValue$End" "HEAD" "Lcom/example/afterlog/afterlog/ListValue$End;" (.ref w2)) (P5 : Old Z n0 h0) (P6 : Exa Z h0 u1 "com/example/afterlog/afterlog/ListValue") (P7 : Fld Z h0 u1 "com/example/afterlog/afterlog/ListValue" "head" "I" (.int u5)) (P8 : ¬ u5 < (0 : Int32) ∧ u5 < (8 : Int32)) (P9 : n0 ≤ u1) (P10 : Exa Z h0 u3 "[[B") (P11 : u3 ≠ u1) (P12 : OvrA Z u4 .byte "[B") (P13 : Exa Z h0 u2 "[B") (P14 : n0 ≤ u3) :
    MF l Z (⟨"com/example/afterlog/afterlog/ListValue", "push", "(Lcom/example/afterlog/afterlog/ListValue$End;[B)V"⟩ : MethodName) (Jvm.Cond.code (⟨"com/example/afterlog/afterlog/ListValue", "push", "(Lcom/example/afterlog/afterlog/ListValue$End;[B)V"⟩ : MethodName) prog_24_method_6_code 3 none) ws ({ frames := 1, cells := 0, slots := 0, locals := 15 } : Room) #[(.ref u1), (.ref w2), (.ref u2)] h0 (Q5_42 Z u1 w2 u2 u3 u4 u5 h0 n0) := by
  refine MetFree.of_bodySF (plainFor_of_name pn_0) hisR ?_
  intro p e s m args below meth c s₁ Bd hml0 hP hK
  obtain ⟨rfl, hZ, hh⟩ := hP
  have hx := Bd.exec
  have hby := Bd.bytes
  have hml : c.maxLocals = 3 := hml0
  have hown : s.vm.findClass "com/example/afterlog/afterlog/ListValue" = some m.cls := findClass_of_methodNamed Bd.named
  have hnm := (name_of_methodNamed Bd.named Bd.method).1
  have X0 : Stand p l e ({ frames := 1, cells := 0, slots := 0, locals := 15 } : Room) s m #[(.ref u1), (.ref w2), (.ref u2)] below meth c s₁ [] 0 0 := Stand.of_body Bd
  have e0 : s₁.heap = h0 := by rw [← hh, Bd.state]; rfl
  have N0 := Fr.nil n0
  have pre0 : ∀ t, SF p e below s₁ (mkF m 0 #[rv u1, rv w2, rv u2] []) t → SF p e below s₁ (entryFrame m #[(.ref u1), (.ref w2), (.ref u2)] 3) t := fun t k => castTop (ef_3 m u1 w2 u2) k
  obtain ⟨T1, X1, e1, st1⟩ := getF X0 hx hZ hown (host := "") (Or.inl (tw hw 19 rfl)) Via.refl e0 P1 (g := (mkF m 1 #[rv u1, rv w2, rv u2] [(.ref u1)])) rfl rfl (hb hby d5_1)
  obtain ⟨T2, X2, e2, st2⟩ := getF X1 hx hZ hown (host := "") (Or.inl (tw hw 12 rfl)) Via.refl e1 P2 (g := (mkF m 5 #[rv u1, rv w2, rv u2] [(.ref u1), (.int 0)])) rfl rfl (hb hby d5_5)
  obtain ⟨cl3, Ar3, q3, S3, N3z, H3⟩ := id P3
  obtain ⟨T4, X4, e4, st4⟩ := getS2 X2 hx hZ hown (host := "") (Or.inl (tw hw 33 rfl)) Via.refl e2 (Sg2.ext P5.2) (g := (mkF m 17 #[rv u1, rv w2, rv u2] [(.ref w2)])) rfl (hb hby d5_17)
  obtain ⟨T5, X5, e5, st5⟩ := getF X4 hx hZ hown (host := "") (Or.inl (tw hw 12 rfl)) Via.refl e4 P2 (g := (mkF m 26 #[rv u1, rv w2, rv u2] [(.ref u1), (.ref u1), (.ref u1)])) rfl rfl (hb hby d5_26)
  obtain ⟨cl6, Ar6, q6, S6, N6z, H6⟩ := id P3
  obtain ⟨cq7, q7, q7'⟩ := P6.cell
  obtain ⟨_, _, ⟨T7, L7, k7x, n7⟩, -, X7, ⟨Lc7, hQ7, l7, y7, z7⟩, st7⟩ := X5.privateBack hx (y := (⟨"com/example/afterlog/afterlog/ListValue", "slot", "(I)I"⟩ : MethodName)) hown (mvT hZ (tw hw 35 rfl)) (mvT hZ (tw hw 36 rfl)) (own_selP hZ (tw hw 2 rfl) (tw hw 37 rfl) (tw hw 36 rfl) (by decide)) (Cond.privateMethod_at (mvP hZ (tw hw 37 rfl) (args := #[]))) (mvT hZ (tw hw 38 rfl)) (by decide) (backOf (W := 1) (own_slot l Z a0 hw [] u1 u3 u4 u5 (7 : Int32) h0 n0 Z0 P2 P7 P3 P8 ⟨by decide, by decide⟩) hZ (tw hw 38 rfl) (tw hw 3 rfl) (by decide) (by decide)) (g := (mkF m 32 #[rv u1, rv w2, rv u2] [(.int 7), (.ref u1), (.ref u1)])) rfl (by rw [hml]; rfl) (Steps.refl _) (a := u1) (by rw [e5]; exact q7) q7' (argsL := [(.int 7)]) (rest := [(.ref u1)]) (lenOf pd_2 rfl) rfl (by show 2 * 0 + _ ≤ _; exact Nat.le_of_eq rfl) (hb hby d5_32) (fun _ _ => ⟨rfl, e5, (by decide : 0 + 0 ≤ _), (by decide : 0 + 0 ≤ _)⟩)
  dsimp only [Pt.U, Pt.locs, Pt.cells, Pt.slots] at X7 l7 y7 z7 st7 hQ7
  subst l7 y7 z7
  obtain ⟨e1x, bx_i10, rfl, N7q, e7⟩ := hQ7
  have N7 := Fr.app N0 N7q
  obtain ⟨T8, h8, X8, e8, W8, st8⟩ := putF X7 hx hZ hown (host := "") (Or.inl (tw hw 39 rfl)) Via.refl e7 P7 P6 (Or.inl (tw hw 40 rfl)) (tw hw 2 rfl) (ty := .int) (by decide) rfl rfl (g := (mkF m 35 #[rv u1, rv w2, rv u2] [(.int e1x), (.ref u1)])) rfl rfl (hb hby d5_35)
  have K8 : Keep h0 h8 [u1, u3] := (Keep.refl h0 [u1, u3]).wr W8 (Or.inl (List.mem_of_getElem? (i := 0) rfl))
  have N8 := Fr.snoc X8 N7 P9
  have Fw8 : Fld Z h8 u1 "com/example/afterlog/afterlog/ListValue" "head" "I" (.int e1x) := P7.same W8
  have F1_9 : Fld Z h8 u1 "com/example/afterlog/afterlog/ListValue" "elements" "[[B" (.ref u3) := P2.other W8 (Or.inr (slot_ne (Or.inl (tw hw 13 rfl)) (Or.inl (tw hw 40 rfl)) (by decide) (t := (.array (.array .byte))) (t' := .int) (by decide) (by decide)))
  obtain ⟨T10, X10, e10, st10⟩ := getF X8 hx hZ hown (host := "") (Or.inl (tw hw 12 rfl)) Via.refl e8 F1_9 (g := (mkF m 39 #[rv u1, rv w2, rv u2] [(.ref u1)])) rfl rfl (hb hby d5_39)
  obtain ⟨T11, X11, e11, st11⟩ := getF X10 hx hZ hown (host := "") (Or.inl (tw hw 39 rfl)) Via.refl e10 Fw8 (g := (mkF m 43 #[rv u1, rv w2, rv u2] [(.ref u1), (.ref u3)])) rfl rfl (hb hby d5_43)
  have F1_12 : Exa Z h8 u3 "[[B" := P10.wr W8
  have F1_13 : Ary Z h8 u3 u4 (.array .byte) (8 : Int32) := P3.other W8 P11
  obtain ⟨cl14, Ar14, q14, S14, N14z, H14⟩ := id F1_13
  have hin14 : ¬ (e1x < 0 ∨ cl14.slots.size ≤ (e1x).toNatClampNeg) := inb_of S14 ⟨(bx_i10).1, (bx_i10).2⟩
  have F1_15 : Exa Z h8 u2 "[B" := P13.wr W8
  obtain ⟨T16, h16, X16, e16, W16, st16⟩ := stR X11 hx hZ e11 Ar14 (j := e1x) hin14 rfl (Sto.ofVA Ar14 q14 P12 (Ins.self F1_15)) (g := (mkF m 47 #[rv u1, rv w2, rv u2] [(.ref u2), (.int e1x), (.ref u3)])) rfl rfl (hb hby d5_47)
  have K16 : Keep h0 h16 [u1, u3] := K8.wr W16 (Or.inl (List.mem_of_getElem? (i := 1) rfl))
  have N16 := Fr.snoc X16 N8 P14
  have V16 : Ary Z h16 u3 u4 (.array .byte) (8 : Int32) := Ary.set Ar14 q14 S14 N14z H14 rfl W16
  have F1_17 : Fld Z h8 u1 "com/example/afterlog/afterlog/ListValue" "size" "I" (.int 0) := P1.other W8 (Or.inr (slot_ne (Or.inl (tw hw 20 rfl)) (Or.inl (tw hw 40 rfl)) (by decide) (t := .int) (t' := .int) (by decide) (by decide)))
  have F2_18 : Fld Z h16 u1 "com/example/afterlog/afterlog/ListValue" "size" "I" (.int 0) := F1_17.other W16 (Or.inl (Ne.symm P11))
  obtain ⟨T19, X19, e19, st19⟩ := getF X16 hx hZ hown (host := "") (Or.inl (tw hw 19 rfl)) Via.refl e16 F2_18 (g := (mkF m 67 #[rv u1, rv w2, rv u2] [(.ref u1), (.ref u1)])) rfl rfl (hb hby d5_67)
  have F1_20 : Exa Z h8 u1 "com/example/afterlog/afterlog/ListValue" := P6.wr W8
  have F2_21 : Exa Z h16 u1 "com/example/afterlog/afterlog/ListValue" := F1_20.wr W16
  have F2_22 : Fld Z h16 u1 "com/example/afterlog/afterlog/ListValue" "elements" "[[B" (.ref u3) := F1_9.other W16 (Or.inl (Ne.symm P11))
  have F2_23 : Fld Z h16 u1 "com/example/afterlog/afterlog/ListValue" "head" "I" (.int e1x) := Fw8.other W16 (Or.inl (Ne.symm P11))
  obtain ⟨T24, h24, X24, e24, W24, st24⟩ := putF X19 hx hZ hown (host := "") (Or.inl (tw hw 19 rfl)) Via.refl e19 F2_18 F2_21 (Or.inl (tw hw 20 rfl)) (tw hw 2 rfl) (ty := .int) (by decide) rfl rfl (g := (mkF m 72 #[rv u1, rv w2, rv u2] [(.int 1), (.ref u1)])) rfl rfl (hb hby d5_72)
  have K24 : Keep h0 h24 [u1, u3] := K16.wr W24 (Or.inl (List.mem_of_getElem? (i := 0) rfl))
  have N24 := Fr.snoc X24 N16 P9
  have Fw24 : Fld Z h24 u1 "com/example/afterlog/afterlog/ListValue" "size" "I" (.int 1) := F2_18.same W24
  have F3_25 : Fld Z h24 u1 "com/example/afterlog/afterlog/ListValue" "elements" "[[B" (.ref u3) := F2_22.other W24 (Or.inr (slot_ne (Or.inl (tw hw 13 rfl)) (Or.inl (tw hw 20 rfl)) (by decide) (t := (.array (.array .byte))) (t' := .int) (by decide) (by decide)))
  have F3_26 : Exa Z h24 u1 "com/example/afterlog/afterlog/ListValue" := F2_21.wr W24
  have F3_27 : Fld Z h24 u1 "com/example/afterlog/afterlog/ListValue" "head" "I" (.int e1x) := F2_23.other W24 (Or.inr (slot_ne (Or.inl (tw hw 40 rfl)) (Or.inl (tw hw 20 rfl)) (by decide) (t := .int) (t' := .int) (by decide) (by decide)))
  have F3_28 : Ary Z h24 u3 u4 (.array .byte) (8 : Int32) := V16.other W24 P11
  have F2_29 : Exa Z h16 u3 "[[B" := F1_12.wr W16
  have F3_30 : Exa Z h24 u3 "[[B" := F2_29.wr W24
  obtain ⟨fs, hr, hrun, hended, hW, hsame⟩ := X24.leave (v := none) (fun _ => rfl)
  refine ⟨_, _, pre0 _ ?_, hrun, hended, _, _, rfl, ?_, ⟨_, rfl⟩, hW, hsame.mono (by decide) (by decide)⟩
  · show SF p e below s₁ (mkF m 0 #[rv u1, rv w2, rv u2] []) _
    refine XS.aloadN X0.here hx rfl (hb hby d5_0) rfl rfl ?_
    show SF p e below s₁ (mkF m 1 #[rv u1, rv w2, rv u2] [(.ref u1)]) _
    refine st1 _ ?_
    show SF p e below T1 (mkF m 4 #[rv u1, rv w2, rv u2] [(.int 0)]) _
    refine XS.aloadN X1.here hx rfl (hb hby d5_4) rfl rfl ?_
    show SF p e below T1 (mkF m 5 #[rv u1, rv w2, rv u2] [(.ref u1), (.int 0)]) _
    refine st2 _ ?_
    show SF p e below T2 (mkF m 8 #[rv u1, rv w2, rv u2] [(.ref u3), (.int 0)]) _
    refine X2.arraylength hx (by rw [e2]; exact Ar3.1) (State.isArrayOf_alike hZ.alike Ar3.2.1) (g := (mkF m 8 #[rv u1, rv w2, rv u2] [(.ref u3), (.int 0)])) rfl rfl (hb hby d5_8) _ ?_
    rw [len_of S3 N3z]
    show SF p e below T2 (mkF m 9 #[rv u1, rv w2, rv u2] [(.int 8), (.int 0)]) _
    refine XS.icmpYes X2.here hx rfl (pc0 := 9) (pc' := 16) rfl (hb hby d5_9) rfl (feq (by decide : ¬ ((0 : Int32) = (8 : Int32)))).2 (by decide) (by decide) ?_
    show SF p e below T2 (mkF m 16 #[rv u1, rv w2, rv u2] []) _
    refine XS.aloadN X2.here hx rfl (hb hby d5_16) rfl rfl ?_
    show SF p e below T2 (mkF m 17 #[rv u1, rv w2, rv u2] [(.ref w2)]) _
    refine st4 _ ?_
    show SF p e below T4 (mkF m 20 #[rv u1, rv w2, rv u2] [(.ref w2), (.ref w2)]) _
    refine Jvm.RoadKit.acmp (g := (mkF m 20 #[rv u1, rv w2, rv u2] [(.ref w2), (.ref w2)])) X4 hx rfl rfl rfl (pc0 := 20) (pc' := 23) (same := true) rfl (hb hby d5_20) rfl (decide_eq_true rfl) (by decide) (by decide) ?_
    show SF p e below T4 (mkF m 23 #[rv u1, rv w2, rv u2] []) _
    refine XS.aloadN X4.here hx rfl (hb hby d5_23) rfl rfl ?_
    show SF p e below T4 (mkF m 24 #[rv u1, rv w2, rv u2] [(.ref u1)]) _
    refine XS.aloadN X4.here hx rfl (hb hby d5_24) rfl rfl ?_
    show SF p e below T4 (mkF m 25 #[rv u1, rv w2, rv u2] [(.ref u1), (.ref u1)]) _
    refine XS.aloadN X4.here hx rfl (hb hby d5_25) rfl rfl ?_
    show SF p e below T4 (mkF m 26 #[rv u1, rv w2, rv u2] [(.ref u1), (.ref u1), (.ref u1)]) _
    refine st5 _ ?_
    show SF p e below T5 (mkF m 29 #[rv u1, rv w2, rv u2] [(.ref u3), (.ref u1), (.ref u1)]) _
    refine X5.arraylength hx (by rw [e5]; exact Ar6.1) (State.isArrayOf_alike hZ.alike Ar6.2.1) (g := (mkF m 29 #[rv u1, rv w2, rv u2] [(.ref u3), (.ref u1), (.ref u1)])) rfl rfl (hb hby d5_29) _ ?_
    rw [len_of S6 N6z]
    show SF p e below T5 (mkF m 30 #[rv u1, rv w2, rv u2] [(.int 8), (.ref u1), (.ref u1)]) _
    refine XS.iconst X5.here hx rfl (hb hby d5_30) ?_
    show SF p e below T5 (mkF m 31 #[rv u1, rv w2, rv u2] [(.int 1), (.int 8), (.ref u1), (.ref u1)]) _
    refine XS.isub X5.here hx rfl (hb hby d5_31) rfl ?_
    show SF p e below T5 (mkF m 32 #[rv u1, rv w2, rv u2] [(.int ((8 : Int32) - (1 : Int32))), (.ref u1), (.ref u1)]) _
    rw [show ((8 : Int32) - (1 : Int32)) = (7 : Int32) from by decide]
    show SF p e below T5 (mkF m 32 #[rv u1, rv w2, rv u2] [(.int 7), (.ref u1), (.ref u1)]) _
    refine st7.trans ?_
    show SF p e below T7 (mkF m 35 #[rv u1, rv w2, rv u2] [(.int e1x), (.ref u1)]) _
    refine st8 _ ?_
    show SF p e below T8 (mkF m 38 #[rv u1, rv w2, rv u2] []) _
    refine XS.aloadN X8.here hx rfl (hb hby d5_38) rfl rfl ?_
    show SF p e below T8 (mkF m 39 #[rv u1, rv w2, rv u2] [(.ref u1)]) _
    refine st10 _ ?_
    show SF p e below T10 (mkF m 42 #[rv u1, rv w2, rv u2] [(.ref u3)]) _
    refine XS.aloadN X10.here hx rfl (hb hby d5_42) rfl rfl ?_
    show SF p e below T10 (mkF m 43 #[rv u1, rv w2, rv u2] [(.ref u1), (.ref u3)]) _
    refine st11 _ ?_
    show SF p e below T11 (mkF m 46 #[rv u1, rv w2, rv u2] [(.int e1x), (.ref u3)]) _
    refine XS.aloadN X11.here hx rfl (hb hby d5_46) rfl rfl ?_
    show SF p e below T11 (mkF m 47 #[rv u1, rv w2, rv u2] [(.ref u2), (.int e1x), (.ref u3)]) _
    refine st16 _ ?_
    show SF p e below T16 (mkF m 48 #[rv u1, rv w2, rv u2] []) _
    refine XS.goto X16.here hx rfl (pc0 := 48) (pc' := 65) rfl (hb hby d5_48) (by decide) (by decide) ?_
    show SF p e below T16 (mkF m 65 #[rv u1, rv w2, rv u2] []) _
    refine XS.aloadN X16.here hx rfl (hb hby d5_65) rfl rfl ?_
    show SF p e below T16 (mkF m 66 #[rv u1, rv w2, rv u2] [(.ref u1)]) _
    refine XS.dup X16.here hx rfl (hb hby d5_66) rfl rfl ?_
    show SF p e below T16 (mkF m 67 #[rv u1, rv w2, rv u2] [(.ref u1), (.ref u1)]) _
    refine st19 _ ?_
    show SF p e below T19 (mkF m 70 #[rv u1, rv w2, rv u2] [(.int 0), (.ref u1)]) _
    refine XS.iconst X19.here hx rfl (hb hby d5_70) ?_
    show SF p e below T19 (mkF m 71 #[rv u1, rv w2, rv u2] [(.int 1), (.int 0), (.ref u1)]) _
    refine XS.iadd X19.here hx rfl (hb hby d5_71) rfl ?_
    show SF p e below T19 (mkF m 72 #[rv u1, rv w2, rv u2] [(.int ((0 : Int32) + (1 : Int32))), (.ref u1)]) _
    rw [show ((0 : Int32) + (1 : Int32)) = (1 : Int32) from by decide]
    show SF p e below T19 (mkF m 72 #[rv u1, rv w2, rv u2] [(.int 1), (.ref u1)]) _
    refine st24 _ ?_
    show SF p e below T24 (mkF m 75 #[rv u1, rv w2, rv u2] []) _
    exact X24.returnOut hx Bd.returns (hb hby d5_75) hr
  · show Q5_42 Z u1 w2 u2 u3 u4 u5 h0 n0 _ T24.heap _
    rw [e24]
    exact ⟨e1x, bx_i10, rfl, N24, K24, Fw24, F3_25, F3_26, F3_27, F3_28, F3_30⟩
-- ListValueIsEmptyPinLaw.step 
def Q4_43 (Z : State) (u1 : Addr) (u2 : Int32) (u3 : Addr) (w2 : Addr) (u4 : Addr) (u5 : ClassId) (u6 : Int32) (h0 : Heap) (n0 : Nat) (v : Option Value) (h : Heap) (L : List Loc) : Prop := ∃ e1x : Int32, (¬ e1x < (0 : Int32) ∧ e1x < (8 : Int32)) ∧ v = some (.int 1) ∧ Fr n0 L ∧ Keep h0 h [u1, u4] ∧ Exa Z h u1 "com/example/afterlog/afterlog/ListValue" ∧ Fld Z h u1 "com/example/afterlog/afterlog/ListValue" "size" "I" (.int 1) ∧ Fld Z h u1 "com/example/afterlog/afterlog/ListValue" "elements" "[[B" (.ref u4) ∧ Fld Z h u1 "com/example/afterlog/afterlog/ListValue" "head" "I" (.int e1x) ∧ Exa Z h u4 "[[B" ∧ Ary Z h u4 u5 (.array .byte) (8 : Int32)
set_option maxRecDepth 65536 in
set_option maxHeartbeats 40000000 in
theorem rm4_43 (l : Launch) (Z : State) (a0 : Array Value) (hw : HW Z a0) (ws : List Jvm.Cond) (u1 : Addr) (u2 : Int32) (u3 : Addr) (w2 : Addr) (u4 : Addr) (u5 : ClassId) (u6 : Int32) (h0 : Heap) (n0 : Nat) (Z0 : n0 ≤ h0.size) (P1 : ¬ ((u2 &&& (2 : Int32)) = (0 : Int32))) (Sg2 : Sta Z Z.heap "com/example/afterlog/afterlog/ListValue$End" "HEAD" "Lcom/example/afterlog/afterlog/ListValue$End;" (.ref w2)) (P3 : Old Z n0 h0) (P4 : (u2 &&& (1 : Int32)) = (0 : Int32)) (P5 : Exa Z h0 u1 "com/example/afterlog/afterlog/ListValue") (P6 : Fld Z h0 u1 "com/example/afterlog/afterlog/ListValue" "size" "I" (.int 0)) (P7 : Fld Z h0 u1 "com/example/afterlog/afterlog/ListValue" "elements" "[[B" (.ref u4)) (P8 : Ary Z h0 u4 u5 (.array .byte) (8 : Int32)) (P9 : Fld Z h0 u1 "com/example/afterlog/afterlog/ListValue" "head" "I" (.int u6)) (P10 : ¬ u6 < (0 : Int32) ∧ u6 < (8 : Int32)) (P11 : n0 ≤ u1) (P12 : Exa Z h0 u4 "[[B") (P13 : u4 ≠ u1) (P14 : OvrA Z u5 .byte "[B") (P15 : Exa Z h0 u3 "[B") (P16 : n0 ≤ u4) :
    MF l Z (⟨"com/example/afterlog/afterlog/ListValueIsEmptyPinLaw", "step", "(Lcom/example/afterlog/afterlog/ListValue;II[B)I"⟩ : MethodName) (Jvm.Cond.code (⟨"com/example/afterlog/afterlog/ListValueIsEmptyPinLaw", "step", "(Lcom/example/afterlog/afterlog/ListValue;II[B)I"⟩ : MethodName) method_3_code 5 (some .int)) ws ({ frames := 2, cells := 0, slots := 0, locals := 29 } : Room) #[(.ref u1), (.int 0), (.int u2), (.ref u3)] h0 (Q4_43 Z u1 u2 u3 w2 u4 u5 u6 h0 n0) := by
  refine MetFree.of_bodySF (plainFor_of_name pn_1) hisR ?_
  intro p e s m args below meth c s₁ Bd hml0 hP hK
  obtain ⟨rfl, hZ, hh⟩ := hP
  have hx := Bd.exec
  have hby := Bd.bytes
  have hml : c.maxLocals = 5 := hml0
  have hown : s.vm.findClass "com/example/afterlog/afterlog/ListValueIsEmptyPinLaw" = some m.cls := findClass_of_methodNamed Bd.named
  have hnm := (name_of_methodNamed Bd.named Bd.method).1
  have X0 : Stand p l e ({ frames := 2, cells := 0, slots := 0, locals := 29 } : Room) s m #[(.ref u1), (.int 0), (.int u2), (.ref u3)] below meth c s₁ [] 0 0 := Stand.of_body Bd
  have e0 : s₁.heap = h0 := by rw [← hh, Bd.state]; rfl
  have N0 := Fr.nil n0
  have pre0 : ∀ t, SF p e below s₁ (mkF m 0 #[rv u1, iv 0, iv u2, rv u3, .unset] []) t → SF p e below s₁ (entryFrame m #[(.ref u1), (.int 0), (.int u2), (.ref u3)] 5) t := fun t k => castTop (ef_4 m u1 (0 : Int32) u2 u3) k
  obtain ⟨T1, X1, e1, st1⟩ := getS2 X0 hx hZ hown (host := "") (Or.inl (tw hw 42 rfl)) Via.refl e0 (Sg2.ext P3.2) (g := (mkF m 6 #[rv u1, iv 0, iv u2, rv u3, .unset] [])) rfl (hb hby d4_6)
  obtain ⟨cq2, kq2, q2a, q2b, q2c⟩ := isOf hZ e1 P5
  obtain ⟨_, _, ⟨T2, L2, k2x, n2⟩, -, X2, ⟨Lc2, hQ2, l2, y2, z2⟩, st2⟩ := X1.virtualBack hx (y := (⟨"com/example/afterlog/afterlog/ListValue", "push", "(Lcom/example/afterlog/afterlog/ListValue$End;[B)V"⟩ : MethodName)) (z := (⟨"com/example/afterlog/afterlog/ListValue", "push", "(Lcom/example/afterlog/afterlog/ListValue$End;[B)V"⟩ : MethodName)) hown (mvT hZ (tw hw 28 rfl)) (mvT hZ (tw hw 29 rfl)) (notFace_of_selects (args := #[]) (mvT hZ (tw hw 31 rfl))) (mvT hZ (tw hw 31 rfl)) (mvT hZ (tw hw 30 rfl)) (by decide) (backOf (W := 0) (rm5_42 l Z a0 hw [] u1 w2 u3 u4 u5 u6 h0 n0 Z0 P6 P7 P8 Sg2 P3 P5 P9 P10 P11 P12 P13 P14 P15 P16) hZ (tw hw 32 rfl) (tw hw 3 rfl) (by decide) (by decide)) q2a q2c (g := (mkF m 42 #[rv u1, iv 0, iv u2, rv u3, rv w2] [(.ref u3), (.ref w2), (.ref u1)])) rfl (by rw [hml]; rfl) (Steps.refl _) (argsL := [(.ref w2), (.ref u3)]) (rest := []) (lenOf pd_3 rfl) rfl (by show 2 * 0 + _ ≤ _; exact Nat.le_of_eq rfl) (hb hby d4_42) (fun _ _ => ⟨rfl, e1, (by decide : 0 + 0 ≤ _), (by decide : 0 + 0 ≤ _)⟩)
  dsimp only [Pt.U, Pt.locs, Pt.cells, Pt.slots] at X2 l2 y2 z2 st2 hQ2
  subst l2 y2 z2
  obtain ⟨e1x, bx_i11, rfl, N2q, K2c, Fq2_0, Fq2_1, Fq2_2, Fq2_3, Fq2_4, Fq2_5⟩ := hQ2
  have K2 : Keep h0 T2.heap [u1, u4] := (Keep.refl h0 [u1, u4]).trans K2c (allS (Or.inl (List.mem_of_getElem? (i := 0) rfl)) (allS (Or.inl (List.mem_of_getElem? (i := 1) rfl)) all0))
  have N2 := Fr.app N0 N2q
  obtain ⟨fs, hr, hrun, hended, hW, hsame⟩ := X2.leave (v := some (.int 1)) (fun h => by rw [Bd.returns] at h; cases h)
  refine ⟨_, _, pre0 _ ?_, hrun, hended, _, _, rfl, ?_, ⟨_, rfl⟩, hW, hsame.mono (by decide) (by decide)⟩
  · show SF p e below s₁ (mkF m 0 #[rv u1, iv 0, iv u2, rv u3, .unset] []) _
    refine XS.iloadN X0.here hx rfl (hb hby d4_0) rfl ?_
    show SF p e below s₁ (mkF m 1 #[rv u1, iv 0, iv u2, rv u3, .unset] [(.int u2)]) _
    refine XS.iconst X0.here hx rfl (hb hby d4_1) ?_
    show SF p e below s₁ (mkF m 2 #[rv u1, iv 0, iv u2, rv u3, .unset] [(.int 2), (.int u2)]) _
    refine XS.iand X0.here hx rfl (hb hby d4_2) rfl ?_
    show SF p e below s₁ (mkF m 3 #[rv u1, iv 0, iv u2, rv u3, .unset] [(.int (u2 &&& (2 : Int32)))]) _
    refine XS.ifNo X0.here hx rfl (hb hby d4_3) rfl ((if0 _ _).trans (feq P1).1) ?_
    show SF p e below s₁ (mkF m 6 #[rv u1, iv 0, iv u2, rv u3, .unset] []) _
    refine st1 _ ?_
    show SF p e below T1 (mkF m 9 #[rv u1, iv 0, iv u2, rv u3, .unset] [(.ref w2)]) _
    refine XS.goto X1.here hx rfl (pc0 := 9) (pc' := 15) rfl (hb hby d4_9) (by decide) (by decide) ?_
    show SF p e below T1 (mkF m 15 #[rv u1, iv 0, iv u2, rv u3, .unset] [(.ref w2)]) _
    refine XS.astore X1.here hx rfl (hb hby d4_15) rfl rfl (l' := #[rv u1, iv 0, iv u2, rv u3, rv w2]) rfl ?_
    show SF p e below T1 (mkF m 17 #[rv u1, iv 0, iv u2, rv u3, rv w2] []) _
    refine XS.iloadN X1.here hx rfl (hb hby d4_17) rfl ?_
    show SF p e below T1 (mkF m 18 #[rv u1, iv 0, iv u2, rv u3, rv w2] [(.int u2)]) _
    refine XS.iconst X1.here hx rfl (hb hby d4_18) ?_
    show SF p e below T1 (mkF m 19 #[rv u1, iv 0, iv u2, rv u3, rv w2] [(.int 1), (.int u2)]) _
    refine XS.iand X1.here hx rfl (hb hby d4_19) rfl ?_
    show SF p e below T1 (mkF m 20 #[rv u1, iv 0, iv u2, rv u3, rv w2] [(.int (u2 &&& (1 : Int32)))]) _
    refine XS.ifYes X1.here hx rfl (pc0 := 20) (pc' := 38) rfl (hb hby d4_20) rfl ((if0 _ _).trans (teq P4).1) (by decide) (by decide) ?_
    show SF p e below T1 (mkF m 38 #[rv u1, iv 0, iv u2, rv u3, rv w2] []) _
    refine XS.aloadN X1.here hx rfl (hb hby d4_38) rfl rfl ?_
    show SF p e below T1 (mkF m 39 #[rv u1, iv 0, iv u2, rv u3, rv w2] [(.ref u1)]) _
    refine XS.aload X1.here hx rfl (hb hby d4_39) rfl rfl ?_
    show SF p e below T1 (mkF m 41 #[rv u1, iv 0, iv u2, rv u3, rv w2] [(.ref w2), (.ref u1)]) _
    refine XS.aloadN X1.here hx rfl (hb hby d4_41) rfl rfl ?_
    show SF p e below T1 (mkF m 42 #[rv u1, iv 0, iv u2, rv u3, rv w2] [(.ref u3), (.ref w2), (.ref u1)]) _
    refine st2.trans ?_
    show SF p e below T2 (mkF m 45 #[rv u1, iv 0, iv u2, rv u3, rv w2] []) _
    refine XS.iloadN X2.here hx rfl (hb hby d4_45) rfl ?_
    show SF p e below T2 (mkF m 46 #[rv u1, iv 0, iv u2, rv u3, rv w2] [(.int 0)]) _
    refine XS.iconst X2.here hx rfl (hb hby d4_46) ?_
    show SF p e below T2 (mkF m 47 #[rv u1, iv 0, iv u2, rv u3, rv w2] [(.int 1), (.int 0)]) _
    refine XS.iadd X2.here hx rfl (hb hby d4_47) rfl ?_
    show SF p e below T2 (mkF m 48 #[rv u1, iv 0, iv u2, rv u3, rv w2] [(.int ((0 : Int32) + (1 : Int32)))]) _
    rw [show ((0 : Int32) + (1 : Int32)) = (1 : Int32) from by decide]
    show SF p e below T2 (mkF m 48 #[rv u1, iv 0, iv u2, rv u3, rv w2] [(.int 1)]) _
    exact retI X2 hx Bd.returns (hb hby d4_48) hr
  · show Q4_43 Z u1 u2 u3 w2 u4 u5 u6 h0 n0 _ T2.heap _
    exact ⟨e1x, bx_i11, rfl, N2, K2, Fq2_2, Fq2_0, Fq2_1, Fq2_3, Fq2_5, Fq2_4⟩
-- ListValueIsEmptyPinLaw.step 
def Q4_44 (Z : State) (u1 : Addr) (u2 : Int32) (u3 : Addr) (w2 : Addr) (u4 : Addr) (u5 : ClassId) (u6 : Int32) (h0 : Heap) (n0 : Nat) (v : Option Value) (h : Heap) (L : List Loc) : Prop := ∃ e1x : Int32, (¬ e1x < (0 : Int32) ∧ e1x < (8 : Int32)) ∧ v = some (.int 1) ∧ Fr n0 L ∧ Keep h0 h [u1, u4] ∧ Exa Z h u1 "com/example/afterlog/afterlog/ListValue" ∧ Fld Z h u1 "com/example/afterlog/afterlog/ListValue" "size" "I" (.int 1) ∧ Fld Z h u1 "com/example/afterlog/afterlog/ListValue" "elements" "[[B" (.ref u4) ∧ Fld Z h u1 "com/example/afterlog/afterlog/ListValue" "head" "I" (.int e1x) ∧ Exa Z h u4 "[[B" ∧ Ary Z h u4 u5 (.array .byte) (8 : Int32)
set_option maxRecDepth 65536 in
set_option maxHeartbeats 40000000 in
theorem rm4_44 (l : Launch) (Z : State) (a0 : Array Value) (hw : HW Z a0) (ws : List Jvm.Cond) (u1 : Addr) (u2 : Int32) (u3 : Addr) (w2 : Addr) (u4 : Addr) (u5 : ClassId) (u6 : Int32) (h0 : Heap) (n0 : Nat) (Z0 : n0 ≤ h0.size) (P1 : ¬ ((u2 &&& (2 : Int32)) = (0 : Int32))) (Sg2 : Sta Z Z.heap "com/example/afterlog/afterlog/ListValue$End" "HEAD" "Lcom/example/afterlog/afterlog/ListValue$End;" (.ref w2)) (P3 : Old Z n0 h0) (P4 : ¬ ((u2 &&& (1 : Int32)) = (0 : Int32))) (P5 : Exa Z h0 u1 "com/example/afterlog/afterlog/ListValue") (P6 : Fld Z h0 u1 "com/example/afterlog/afterlog/ListValue" "size" "I" (.int 0)) (P7 : Fld Z h0 u1 "com/example/afterlog/afterlog/ListValue" "elements" "[[B" (.ref u4)) (P8 : Ary Z h0 u4 u5 (.array .byte) (8 : Int32)) (P9 : Fld Z h0 u1 "com/example/afterlog/afterlog/ListValue" "head" "I" (.int u6)) (P10 : ¬ u6 < (0 : Int32) ∧ u6 < (8 : Int32)) (P11 : n0 ≤ u1) (P12 : Exa Z h0 u4 "[[B") (P13 : u4 ≠ u1) (P14 : OvrA Z u5 .byte "[B") (P15 : Exa Z h0 u3 "[B") (P16 : n0 ≤ u4) :
    MF l Z (⟨"com/example/afterlog/afterlog/ListValueIsEmptyPinLaw", "step", "(Lcom/example/afterlog/afterlog/ListValue;II[B)I"⟩ : MethodName) (Jvm.Cond.code (⟨"com/example/afterlog/afterlog/ListValueIsEmptyPinLaw", "step", "(Lcom/example/afterlog/afterlog/ListValue;II[B)I"⟩ : MethodName) method_3_code 5 (some .int)) ws ({ frames := 2, cells := 0, slots := 0, locals := 29 } : Room) #[(.ref u1), (.int 0), (.int u2), (.ref u3)] h0 (Q4_44 Z u1 u2 u3 w2 u4 u5 u6 h0 n0) := by
  refine MetFree.of_bodySF (plainFor_of_name pn_1) hisR ?_
  intro p e s m args below meth c s₁ Bd hml0 hP hK
  obtain ⟨rfl, hZ, hh⟩ := hP
  have hx := Bd.exec
  have hby := Bd.bytes
  have hml : c.maxLocals = 5 := hml0
  have hown : s.vm.findClass "com/example/afterlog/afterlog/ListValueIsEmptyPinLaw" = some m.cls := findClass_of_methodNamed Bd.named
  have hnm := (name_of_methodNamed Bd.named Bd.method).1
  have X0 : Stand p l e ({ frames := 2, cells := 0, slots := 0, locals := 29 } : Room) s m #[(.ref u1), (.int 0), (.int u2), (.ref u3)] below meth c s₁ [] 0 0 := Stand.of_body Bd
  have e0 : s₁.heap = h0 := by rw [← hh, Bd.state]; rfl
  have N0 := Fr.nil n0
  have pre0 : ∀ t, SF p e below s₁ (mkF m 0 #[rv u1, iv 0, iv u2, rv u3, .unset] []) t → SF p e below s₁ (entryFrame m #[(.ref u1), (.int 0), (.int u2), (.ref u3)] 5) t := fun t k => castTop (ef_4 m u1 (0 : Int32) u2 u3) k
  obtain ⟨T1, X1, e1, st1⟩ := getS2 X0 hx hZ hown (host := "") (Or.inl (tw hw 42 rfl)) Via.refl e0 (Sg2.ext P3.2) (g := (mkF m 6 #[rv u1, iv 0, iv u2, rv u3, .unset] [])) rfl (hb hby d4_6)
  obtain ⟨cq2, kq2, q2a, q2b, q2c⟩ := isOf hZ e1 P5
  obtain ⟨_, _, ⟨T2, L2, k2x, n2⟩, -, X2, ⟨Lc2, hQ2, l2, y2, z2⟩, st2⟩ := X1.virtualBack hx (y := (⟨"com/example/afterlog/afterlog/ListValue", "push", "(Lcom/example/afterlog/afterlog/ListValue$End;[B)V"⟩ : MethodName)) (z := (⟨"com/example/afterlog/afterlog/ListValue", "push", "(Lcom/example/afterlog/afterlog/ListValue$End;[B)V"⟩ : MethodName)) hown (mvT hZ (tw hw 28 rfl)) (mvT hZ (tw hw 29 rfl)) (notFace_of_selects (args := #[]) (mvT hZ (tw hw 31 rfl))) (mvT hZ (tw hw 31 rfl)) (mvT hZ (tw hw 30 rfl)) (by decide) (backOf (W := 0) (rm5_42 l Z a0 hw [] u1 w2 u3 u4 u5 u6 h0 n0 Z0 P6 P7 P8 Sg2 P3 P5 P9 P10 P11 P12 P13 P14 P15 P16) hZ (tw hw 32 rfl) (tw hw 3 rfl) (by decide) (by decide)) q2a q2c (g := (mkF m 42 #[rv u1, iv 0, iv u2, rv u3, rv w2] [(.ref u3), (.ref w2), (.ref u1)])) rfl (by rw [hml]; rfl) (Steps.refl _) (argsL := [(.ref w2), (.ref u3)]) (rest := []) (lenOf pd_3 rfl) rfl (by show 2 * 0 + _ ≤ _; exact Nat.le_of_eq rfl) (hb hby d4_42) (fun _ _ => ⟨rfl, e1, (by decide : 0 + 0 ≤ _), (by decide : 0 + 0 ≤ _)⟩)
  dsimp only [Pt.U, Pt.locs, Pt.cells, Pt.slots] at X2 l2 y2 z2 st2 hQ2
  subst l2 y2 z2
  obtain ⟨e1x, bx_i11, rfl, N2q, K2c, Fq2_0, Fq2_1, Fq2_2, Fq2_3, Fq2_4, Fq2_5⟩ := hQ2
  have K2 : Keep h0 T2.heap [u1, u4] := (Keep.refl h0 [u1, u4]).trans K2c (allS (Or.inl (List.mem_of_getElem? (i := 0) rfl)) (allS (Or.inl (List.mem_of_getElem? (i := 1) rfl)) all0))
  have N2 := Fr.app N0 N2q
  obtain ⟨fs, hr, hrun, hended, hW, hsame⟩ := X2.leave (v := some (.int 1)) (fun h => by rw [Bd.returns] at h; cases h)
  refine ⟨_, _, pre0 _ ?_, hrun, hended, _, _, rfl, ?_, ⟨_, rfl⟩, hW, hsame.mono (by decide) (by decide)⟩
  · show SF p e below s₁ (mkF m 0 #[rv u1, iv 0, iv u2, rv u3, .unset] []) _
    refine XS.iloadN X0.here hx rfl (hb hby d4_0) rfl ?_
    show SF p e below s₁ (mkF m 1 #[rv u1, iv 0, iv u2, rv u3, .unset] [(.int u2)]) _
    refine XS.iconst X0.here hx rfl (hb hby d4_1) ?_
    show SF p e below s₁ (mkF m 2 #[rv u1, iv 0, iv u2, rv u3, .unset] [(.int 2), (.int u2)]) _
    refine XS.iand X0.here hx rfl (hb hby d4_2) rfl ?_
    show SF p e below s₁ (mkF m 3 #[rv u1, iv 0, iv u2, rv u3, .unset] [(.int (u2 &&& (2 : Int32)))]) _
    refine XS.ifNo X0.here hx rfl (hb hby d4_3) rfl ((if0 _ _).trans (feq P1).1) ?_
    show SF p e below s₁ (mkF m 6 #[rv u1, iv 0, iv u2, rv u3, .unset] []) _
    refine st1 _ ?_
    show SF p e below T1 (mkF m 9 #[rv u1, iv 0, iv u2, rv u3, .unset] [(.ref w2)]) _
    refine XS.goto X1.here hx rfl (pc0 := 9) (pc' := 15) rfl (hb hby d4_9) (by decide) (by decide) ?_
    show SF p e below T1 (mkF m 15 #[rv u1, iv 0, iv u2, rv u3, .unset] [(.ref w2)]) _
    refine XS.astore X1.here hx rfl (hb hby d4_15) rfl rfl (l' := #[rv u1, iv 0, iv u2, rv u3, rv w2]) rfl ?_
    show SF p e below T1 (mkF m 17 #[rv u1, iv 0, iv u2, rv u3, rv w2] []) _
    refine XS.iloadN X1.here hx rfl (hb hby d4_17) rfl ?_
    show SF p e below T1 (mkF m 18 #[rv u1, iv 0, iv u2, rv u3, rv w2] [(.int u2)]) _
    refine XS.iconst X1.here hx rfl (hb hby d4_18) ?_
    show SF p e below T1 (mkF m 19 #[rv u1, iv 0, iv u2, rv u3, rv w2] [(.int 1), (.int u2)]) _
    refine XS.iand X1.here hx rfl (hb hby d4_19) rfl ?_
    show SF p e below T1 (mkF m 20 #[rv u1, iv 0, iv u2, rv u3, rv w2] [(.int (u2 &&& (1 : Int32)))]) _
    refine XS.ifNo X1.here hx rfl (hb hby d4_20) rfl ((if0 _ _).trans (feq P4).1) ?_
    show SF p e below T1 (mkF m 23 #[rv u1, iv 0, iv u2, rv u3, rv w2] []) _
    refine XS.iloadN X1.here hx rfl (hb hby d4_23) rfl ?_
    show SF p e below T1 (mkF m 24 #[rv u1, iv 0, iv u2, rv u3, rv w2] [(.int 0)]) _
    refine XS.ifYes X1.here hx rfl (pc0 := 24) (pc' := 38) rfl (hb hby d4_24) rfl ((if0 _ _).trans (flt (by decide : ¬ ((0 : Int32) < (0 : Int32)))).2.2.2) (by decide) (by decide) ?_
    show SF p e below T1 (mkF m 38 #[rv u1, iv 0, iv u2, rv u3, rv w2] []) _
    refine XS.aloadN X1.here hx rfl (hb hby d4_38) rfl rfl ?_
    show SF p e below T1 (mkF m 39 #[rv u1, iv 0, iv u2, rv u3, rv w2] [(.ref u1)]) _
    refine XS.aload X1.here hx rfl (hb hby d4_39) rfl rfl ?_
    show SF p e below T1 (mkF m 41 #[rv u1, iv 0, iv u2, rv u3, rv w2] [(.ref w2), (.ref u1)]) _
    refine XS.aloadN X1.here hx rfl (hb hby d4_41) rfl rfl ?_
    show SF p e below T1 (mkF m 42 #[rv u1, iv 0, iv u2, rv u3, rv w2] [(.ref u3), (.ref w2), (.ref u1)]) _
    refine st2.trans ?_
    show SF p e below T2 (mkF m 45 #[rv u1, iv 0, iv u2, rv u3, rv w2] []) _
    refine XS.iloadN X2.here hx rfl (hb hby d4_45) rfl ?_
    show SF p e below T2 (mkF m 46 #[rv u1, iv 0, iv u2, rv u3, rv w2] [(.int 0)]) _
    refine XS.iconst X2.here hx rfl (hb hby d4_46) ?_
    show SF p e below T2 (mkF m 47 #[rv u1, iv 0, iv u2, rv u3, rv w2] [(.int 1), (.int 0)]) _
    refine XS.iadd X2.here hx rfl (hb hby d4_47) rfl ?_
    show SF p e below T2 (mkF m 48 #[rv u1, iv 0, iv u2, rv u3, rv w2] [(.int ((0 : Int32) + (1 : Int32)))]) _
    rw [show ((0 : Int32) + (1 : Int32)) = (1 : Int32) from by decide]
    show SF p e below T2 (mkF m 48 #[rv u1, iv 0, iv u2, rv u3, rv w2] [(.int 1)]) _
    exact retI X2 hx Bd.returns (hb hby d4_48) hr
  · show Q4_44 Z u1 u2 u3 w2 u4 u5 u6 h0 n0 _ T2.heap _
    exact ⟨e1x, bx_i11, rfl, N2, K2, Fq2_2, Fq2_0, Fq2_1, Fq2_3, Fq2_5, Fq2_4⟩
set_option maxRecDepth 65536 in
set_option maxHeartbeats 400000000 in
theorem pc_5 {p : Program} {l : Launch} {e : Env} {s : State} {m : MethodId} {below : List Frame} {meth : Method} {c : Code} {T0 : State} {locs : List Loc} {Z : State} {a0 : Array Value} {h0 : Heap} {n0 : Nat} {p0s : Int32} {p1s : Int32} {p2s : Int32} {p3s : Int32} {w1 : Addr} {w2 : Addr} {o1 : Addr} {o2 : Addr} {kk1 : ClassId} {o3 : Addr} {kk2 : ClassId} {ii1 : Int32} (X0 : Stand p l e room_1 s m #[(.int p0s), (.int p1s), (.int p2s), (.int p3s)] below meth c T0 locs 3 12) (hx : p.tables.exec = Jvm.exec) (hZ : Z.Warmed39 s.vm) (hw : HW Z a0) (hby : c.code = code) (hml : c.maxLocals = 8) (hown : s.vm.findClass "com/example/afterlog/afterlog/ListValueIsEmptyPinLaw" = some m.cls) (hre : meth.sig.returnType = some .boolean) (hlk : meth.locks = false) (e0 : T0.heap = h0) (N0 : Fr n0 locs) (Z0 : n0 ≤ h0.size) (O0 : Old Z n0 h0) (Sg0 : Sta Z Z.heap "com/example/afterlog/afterlog/ListValue$End" "TAIL" "Lcom/example/afterlog/afterlog/ListValue$End;" (.ref w1)) (E_w1 : Exa Z Z.heap w1 "com/example/afterlog/afterlog/ListValue$End") (Sg2 : Sta Z Z.heap "com/example/afterlog/afterlog/ListValue$End" "HEAD" "Lcom/example/afterlog/afterlog/ListValue$End;" (.ref w2)) (E_w2 : Exa Z Z.heap w2 "com/example/afterlog/afterlog/ListValue$End") (F_w1_ordinal : Fld Z Z.heap w1 "java/lang/Enum" "ordinal" "I" (.int 1)) (F_w2_ordinal : Fld Z Z.heap w2 "java/lang/Enum" "ordinal" "I" (.int 0)) (P1 : Arv Z h0 o1 kk1 .byte (1 : Int32) [(.int (nar .byte ((p0s &&& (127 : Int32)).toInt8.toInt32)))] (.int (0 : Int32))) (P2 : Exa Z h0 o1 "[B") (P3 : Exa Z h0 o2 "com/example/afterlog/afterlog/ListValue") (P4 : Fld Z h0 o2 "com/example/afterlog/afterlog/ListValue" "elements" "[[B" (.ref o3)) (P5 : Fld Z h0 o2 "com/example/afterlog/afterlog/ListValue" "head" "I" (.int ii1)) (P6 : Fld Z h0 o2 "com/example/afterlog/afterlog/ListValue" "size" "I" (.int 0)) (P7 : Ary Z h0 o3 kk2 (.array .byte) (8 : Int32)) (P8 : OvrA Z kk2 .byte "[B") (P9 : Exa Z h0 o3 "[[B") (P10 : ¬ ii1 < (0 : Int32) ∧ ii1 < (8 : Int32)) (P11 : n0 ≤ o1) (P12 : o1 < h0.size) (P13 : n0 ≤ o2) (P14 : o2 < h0.size) (P15 : n0 ≤ o3) (P16 : o3 < h0.size) (P17 : o1 ≠ o2) (P18 : o1 ≠ o3) (P19 : o2 ≠ o3) :
    Fine p e below s n0 (T0.setTop (mkF m 117 #[iv p0s, iv p1s, iv p2s, iv p3s, rv o1, rv o2, iv 1, iv 0] [])) := by
  have pre0 : ∀ t, SF p e below T0 (mkF m 124 #[iv p0s, iv p1s, iv p2s, iv p3s, rv o1, rv o2, iv 1, iv 0] [(.ref o1), (.int p2s), (.int 0), (.ref o2)]) t → SF p e below T0 (mkF m 117 #[iv p0s, iv p1s, iv p2s, iv p3s, rv o1, rv o2, iv 1, iv 0] []) t := fun t k => by
    show SF p e below T0 (mkF m 117 #[iv p0s, iv p1s, iv p2s, iv p3s, rv o1, rv o2, iv 1, iv 0] []) _
    refine XS.aload X0.here hx rfl (hb hby at_117) rfl rfl ?_
    show SF p e below T0 (mkF m 119 #[iv p0s, iv p1s, iv p2s, iv p3s, rv o1, rv o2, iv 1, iv 0] [(.ref o2)]) _
    refine XS.iload X0.here hx rfl (hb hby at_119) rfl ?_
    show SF p e below T0 (mkF m 121 #[iv p0s, iv p1s, iv p2s, iv p3s, rv o1, rv o2, iv 1, iv 0] [(.int 0), (.ref o2)]) _
    refine XS.iloadN X0.here hx rfl (hb hby at_121) rfl ?_
    show SF p e below T0 (mkF m 122 #[iv p0s, iv p1s, iv p2s, iv p3s, rv o1, rv o2, iv 1, iv 0] [(.int p2s), (.int 0), (.ref o2)]) _
    refine XS.aload X0.here hx rfl (hb hby at_122) rfl rfl ?_
    exact k
  by_cases hc1 : (p2s &&& (2 : Int32)) = (0 : Int32)
  · by_cases hc2 : (p2s &&& (1 : Int32)) = (0 : Int32)
    · obtain ⟨_, _, ⟨T1, L1, k1x, n1⟩, -, X1, ⟨Lc1, hQ1, l1, y1, z1⟩, st1⟩ := Jvm.LawKit.callS X0 hx (y := (⟨"com/example/afterlog/afterlog/ListValueIsEmptyPinLaw", "step", "(Lcom/example/afterlog/afterlog/ListValue;II[B)I"⟩ : MethodName)) hown (mvT hZ (tw hw 21 rfl)) (mvT hZ (tw hw 22 rfl)) (mvT hZ (tw hw 23 rfl)) (mvT hZ (tw hw 24 rfl)) (by decide) (backOf (W := 0) (rm4_40 l Z a0 hw [] o2 p2s o1 w1 o3 kk2 w2 ii1 h0 n0 Z0 hc1 Sg0 O0 hc2 P3 P6 P4 P7 Sg2 F_w1_ordinal F_w2_ordinal P5 P10 P9 P8 P2 P15 P19 P13) hZ (tw hw 24 rfl) (tw hw 23 rfl) (by decide) (by decide)) (g := (mkF m 124 #[iv p0s, iv p1s, iv p2s, iv p3s, rv o1, rv o2, iv 1, iv 0] [(.ref o1), (.int p2s), (.int 0), (.ref o2)])) rfl (by rw [hml]; rfl) (argsL := [(.ref o2), (.int 0), (.int p2s), (.ref o1)]) (rest := []) (lenOf pd_4 rfl) rfl (by show 2 * 0 + _ ≤ _; exact Nat.le_of_eq rfl) (hb hby at_124) (fun _ _ => ⟨rfl, e0, (by decide : 3 + 0 ≤ _), (by decide : 12 + 0 ≤ _)⟩)
      dsimp only [Pt.U, Pt.locs, Pt.cells, Pt.slots] at X1 l1 y1 z1 st1 hQ1
      subst l1 y1 z1
      obtain ⟨rfl, N1q, K1c, Fq1_0, Fq1_1, Fq1_2, Fq1_3, Fq1_4, Fq1_5⟩ := hQ1
      have N1 := Fr.app N0 N1q
      have Z1 : n0 ≤ T1.heap.size := Nat.le_trans Z0 K1c.1
      obtain ⟨cq2, kq2, q2a, q2b, q2c⟩ := isOf hZ rfl Fq1_2
      obtain ⟨_, _, ⟨T2, L2, k2x, n2⟩, -, X2, ⟨Lc2, hQ2, l2, y2, z2⟩, st2⟩ := X1.virtualBack hx (y := (⟨"com/example/afterlog/afterlog/ListValue", "isEmpty", "()Z"⟩ : MethodName)) (z := (⟨"com/example/afterlog/afterlog/ListValue", "isEmpty", "()Z"⟩ : MethodName)) hown (mvT hZ (tw hw 14 rfl)) (mvT hZ (tw hw 15 rfl)) (notFace_of_selects (args := #[]) (mvT hZ (tw hw 17 rfl))) (mvT hZ (tw hw 17 rfl)) (mvT hZ (tw hw 16 rfl)) (by decide) (backOf (W := 0) (rm3_7 l Z a0 hw [] o2 T1.heap n0 Z1 Fq1_3) hZ (tw hw 18 rfl) (tw hw 3 rfl) (by decide) (by decide)) q2a q2c (g := (mkF m 136 #[iv p0s, iv p1s, iv p2s, iv p3s, rv o1, rv o2, iv 1, iv 1] [(.ref o2)])) rfl (by rw [hml]; rfl) (Steps.refl _) (argsL := []) (rest := []) (lenOf pd_1 rfl) rfl (by show 2 * 0 + _ ≤ _; exact Nat.le_of_eq rfl) (hb hby at_136) (fun _ _ => ⟨rfl, rfl, (by decide : 3 + 0 ≤ _), (by decide : 12 + 0 ≤ _)⟩)
      dsimp only [Pt.U, Pt.locs, Pt.cells, Pt.slots] at X2 l2 y2 z2 st2 hQ2
      subst l2 y2 z2
      obtain ⟨rfl, N2q, e2⟩ := hQ2
      have N2 := Fr.app N1 N2q
      have F1_3 : Arv Z T1.heap o1 kk1 .byte (1 : Int32) [(.int (nar .byte ((p0s &&& (127 : Int32)).toInt8.toInt32)))] (.int (0 : Int32)) := P1.keep K1c (ninS P18 (ninS P17 nin0))
      have F1_4 : Exa Z T1.heap o1 "[B" := P2.keep K1c
      have lt_o1_1 : o1 < T1.heap.size := Nat.lt_of_lt_of_le P12 K1c.1
      have lt_o2_1 : o2 < T1.heap.size := Nat.lt_of_lt_of_le P14 K1c.1
      have lt_o3_1 : o3 < T1.heap.size := Nat.lt_of_lt_of_le P16 K1c.1
      have O1 : Old Z n0 T1.heap := O0.keep K1c (allS P15 (allS P13 all0))
      refine Fine.pre (fun t k => pre0 _ (?_)) (pc_4 (o1 := o1) (o2 := o2) (kk1 := kk1) (o3 := o3) (kk2 := kk2) (ii1 := ii1) X2 hx hZ hw hby hml hown hre hlk e2 N2 Z1 O1 Sg0 E_w1 Sg2 E_w2 F_w1_ordinal F_w2_ordinal F1_3 F1_4 Fq1_2 Fq1_4 Fq1_5 Fq1_3 Fq1_1 P8 Fq1_0 P10 P11 lt_o1_1 P13 lt_o2_1 P15 lt_o3_1 P17 P18 P19)
      show SF p e below T0 (mkF m 124 #[iv p0s, iv p1s, iv p2s, iv p3s, rv o1, rv o2, iv 1, iv 0] [(.ref o1), (.int p2s), (.int 0), (.ref o2)]) _
      refine st1 _ ?_
      show SF p e below T1 (mkF m 127 #[iv p0s, iv p1s, iv p2s, iv p3s, rv o1, rv o2, iv 1, iv 0] [(.int 1)]) _
      refine XS.istore X1.here hx rfl (hb hby at_127) rfl (l' := #[iv p0s, iv p1s, iv p2s, iv p3s, rv o1, rv o2, iv 1, iv 1]) rfl ?_
      show SF p e below T1 (mkF m 129 #[iv p0s, iv p1s, iv p2s, iv p3s, rv o1, rv o2, iv 1, iv 1] []) _
      refine XS.iload X1.here hx rfl (hb hby at_129) rfl ?_
      show SF p e below T1 (mkF m 131 #[iv p0s, iv p1s, iv p2s, iv p3s, rv o1, rv o2, iv 1, iv 1] [(.int 1)]) _
      refine XS.ifNo X1.here hx rfl (hb hby at_131) rfl ((if0 _ _).trans (feq (by decide : ¬ ((1 : Int32) = (0 : Int32)))).1) ?_
      show SF p e below T1 (mkF m 134 #[iv p0s, iv p1s, iv p2s, iv p3s, rv o1, rv o2, iv 1, iv 1] []) _
      refine XS.aload X1.here hx rfl (hb hby at_134) rfl rfl ?_
      show SF p e below T1 (mkF m 136 #[iv p0s, iv p1s, iv p2s, iv p3s, rv o1, rv o2, iv 1, iv 1] [(.ref o2)]) _
      refine st2.trans ?_
      show SF p e below T2 (mkF m 139 #[iv p0s, iv p1s, iv p2s, iv p3s, rv o1, rv o2, iv 1, iv 1] [(.int 0)]) _
      refine XS.iload X2.here hx rfl (hb hby at_139) rfl ?_
      show SF p e below T2 (mkF m 141 #[iv p0s, iv p1s, iv p2s, iv p3s, rv o1, rv o2, iv 1, iv 1] [(.int 1), (.int 0)]) _
      refine XS.ifYes X2.here hx rfl (pc0 := 141) (pc' := 148) rfl (hb hby at_141) rfl ((if0 _ _).trans (feq (by decide : ¬ ((1 : Int32) = (0 : Int32)))).2) (by decide) (by decide) ?_
      show SF p e below T2 (mkF m 148 #[iv p0s, iv p1s, iv p2s, iv p3s, rv o1, rv o2, iv 1, iv 1] [(.int 0)]) _
      refine XS.iconst X2.here hx rfl (hb hby at_148) ?_
      show SF p e below T2 (mkF m 149 #[iv p0s, iv p1s, iv p2s, iv p3s, rv o1, rv o2, iv 1, iv 1] [(.int 0), (.int 0)]) _
      refine XS.icmpNo X2.here hx rfl (hb hby at_149) rfl (teq (by decide : (0 : Int32) = (0 : Int32))).2 ?_
      show SF p e below T2 (mkF m 152 #[iv p0s, iv p1s, iv p2s, iv p3s, rv o1, rv o2, iv 1, iv 1] []) _
      refine XS.iconst X2.here hx rfl (hb hby at_152) ?_
      show SF p e below T2 (mkF m 153 #[iv p0s, iv p1s, iv p2s, iv p3s, rv o1, rv o2, iv 1, iv 1] [(.int 1)]) _
      refine XS.goto X2.here hx rfl (pc0 := 153) (pc' := 157) rfl (hb hby at_153) (by decide) (by decide) ?_
      show SF p e below T2 (mkF m 157 #[iv p0s, iv p1s, iv p2s, iv p3s, rv o1, rv o2, iv 1, iv 1] [(.int 1)]) _
      refine XS.istore X2.here hx rfl (hb hby at_157) rfl (l' := #[iv p0s, iv p1s, iv p2s, iv p3s, rv o1, rv o2, iv 1, iv 1]) rfl ?_
      exact k
    · obtain ⟨_, _, ⟨T1, L1, k1x, n1⟩, -, X1, ⟨Lc1, hQ1, l1, y1, z1⟩, st1⟩ := Jvm.LawKit.callS X0 hx (y := (⟨"com/example/afterlog/afterlog/ListValueIsEmptyPinLaw", "step", "(Lcom/example/afterlog/afterlog/ListValue;II[B)I"⟩ : MethodName)) hown (mvT hZ (tw hw 21 rfl)) (mvT hZ (tw hw 22 rfl)) (mvT hZ (tw hw 23 rfl)) (mvT hZ (tw hw 24 rfl)) (by decide) (backOf (W := 0) (rm4_41 l Z a0 hw [] o2 p2s o1 w1 o3 kk2 w2 ii1 h0 n0 Z0 hc1 Sg0 O0 hc2 P3 P6 P4 P7 Sg2 F_w1_ordinal F_w2_ordinal P5 P10 P9 P8 P2 P15 P19 P13) hZ (tw hw 24 rfl) (tw hw 23 rfl) (by decide) (by decide)) (g := (mkF m 124 #[iv p0s, iv p1s, iv p2s, iv p3s, rv o1, rv o2, iv 1, iv 0] [(.ref o1), (.int p2s), (.int 0), (.ref o2)])) rfl (by rw [hml]; rfl) (argsL := [(.ref o2), (.int 0), (.int p2s), (.ref o1)]) (rest := []) (lenOf pd_4 rfl) rfl (by show 2 * 0 + _ ≤ _; exact Nat.le_of_eq rfl) (hb hby at_124) (fun _ _ => ⟨rfl, e0, (by decide : 3 + 0 ≤ _), (by decide : 12 + 0 ≤ _)⟩)
      dsimp only [Pt.U, Pt.locs, Pt.cells, Pt.slots] at X1 l1 y1 z1 st1 hQ1
      subst l1 y1 z1
      obtain ⟨rfl, N1q, K1c, Fq1_0, Fq1_1, Fq1_2, Fq1_3, Fq1_4, Fq1_5⟩ := hQ1
      have N1 := Fr.app N0 N1q
      have Z1 : n0 ≤ T1.heap.size := Nat.le_trans Z0 K1c.1
      obtain ⟨cq2, kq2, q2a, q2b, q2c⟩ := isOf hZ rfl Fq1_2
      obtain ⟨_, _, ⟨T2, L2, k2x, n2⟩, -, X2, ⟨Lc2, hQ2, l2, y2, z2⟩, st2⟩ := X1.virtualBack hx (y := (⟨"com/example/afterlog/afterlog/ListValue", "isEmpty", "()Z"⟩ : MethodName)) (z := (⟨"com/example/afterlog/afterlog/ListValue", "isEmpty", "()Z"⟩ : MethodName)) hown (mvT hZ (tw hw 14 rfl)) (mvT hZ (tw hw 15 rfl)) (notFace_of_selects (args := #[]) (mvT hZ (tw hw 17 rfl))) (mvT hZ (tw hw 17 rfl)) (mvT hZ (tw hw 16 rfl)) (by decide) (backOf (W := 0) (rm3_7 l Z a0 hw [] o2 T1.heap n0 Z1 Fq1_3) hZ (tw hw 18 rfl) (tw hw 3 rfl) (by decide) (by decide)) q2a q2c (g := (mkF m 136 #[iv p0s, iv p1s, iv p2s, iv p3s, rv o1, rv o2, iv 1, iv 1] [(.ref o2)])) rfl (by rw [hml]; rfl) (Steps.refl _) (argsL := []) (rest := []) (lenOf pd_1 rfl) rfl (by show 2 * 0 + _ ≤ _; exact Nat.le_of_eq rfl) (hb hby at_136) (fun _ _ => ⟨rfl, rfl, (by decide : 3 + 0 ≤ _), (by decide : 12 + 0 ≤ _)⟩)
      dsimp only [Pt.U, Pt.locs, Pt.cells, Pt.slots] at X2 l2 y2 z2 st2 hQ2
      subst l2 y2 z2
      obtain ⟨rfl, N2q, e2⟩ := hQ2
      have N2 := Fr.app N1 N2q
      have F1_3 : Arv Z T1.heap o1 kk1 .byte (1 : Int32) [(.int (nar .byte ((p0s &&& (127 : Int32)).toInt8.toInt32)))] (.int (0 : Int32)) := P1.keep K1c (ninS P18 (ninS P17 nin0))
      have F1_4 : Exa Z T1.heap o1 "[B" := P2.keep K1c
      have lt_o1_1 : o1 < T1.heap.size := Nat.lt_of_lt_of_le P12 K1c.1
      have lt_o2_1 : o2 < T1.heap.size := Nat.lt_of_lt_of_le P14 K1c.1
      have lt_o3_1 : o3 < T1.heap.size := Nat.lt_of_lt_of_le P16 K1c.1
      have O1 : Old Z n0 T1.heap := O0.keep K1c (allS P15 (allS P13 all0))
      refine Fine.pre (fun t k => pre0 _ (?_)) (pc_4 (o1 := o1) (o2 := o2) (kk1 := kk1) (o3 := o3) (kk2 := kk2) (ii1 := ii1) X2 hx hZ hw hby hml hown hre hlk e2 N2 Z1 O1 Sg0 E_w1 Sg2 E_w2 F_w1_ordinal F_w2_ordinal F1_3 F1_4 Fq1_2 Fq1_4 Fq1_5 Fq1_3 Fq1_1 P8 Fq1_0 P10 P11 lt_o1_1 P13 lt_o2_1 P15 lt_o3_1 P17 P18 P19)
      show SF p e below T0 (mkF m 124 #[iv p0s, iv p1s, iv p2s, iv p3s, rv o1, rv o2, iv 1, iv 0] [(.ref o1), (.int p2s), (.int 0), (.ref o2)]) _
      refine st1 _ ?_
      show SF p e below T1 (mkF m 127 #[iv p0s, iv p1s, iv p2s, iv p3s, rv o1, rv o2, iv 1, iv 0] [(.int 1)]) _
      refine XS.istore X1.here hx rfl (hb hby at_127) rfl (l' := #[iv p0s, iv p1s, iv p2s, iv p3s, rv o1, rv o2, iv 1, iv 1]) rfl ?_
      show SF p e below T1 (mkF m 129 #[iv p0s, iv p1s, iv p2s, iv p3s, rv o1, rv o2, iv 1, iv 1] []) _
      refine XS.iload X1.here hx rfl (hb hby at_129) rfl ?_
      show SF p e below T1 (mkF m 131 #[iv p0s, iv p1s, iv p2s, iv p3s, rv o1, rv o2, iv 1, iv 1] [(.int 1)]) _
      refine XS.ifNo X1.here hx rfl (hb hby at_131) rfl ((if0 _ _).trans (feq (by decide : ¬ ((1 : Int32) = (0 : Int32)))).1) ?_
      show SF p e below T1 (mkF m 134 #[iv p0s, iv p1s, iv p2s, iv p3s, rv o1, rv o2, iv 1, iv 1] []) _
      refine XS.aload X1.here hx rfl (hb hby at_134) rfl rfl ?_
      show SF p e below T1 (mkF m 136 #[iv p0s, iv p1s, iv p2s, iv p3s, rv o1, rv o2, iv 1, iv 1] [(.ref o2)]) _
      refine st2.trans ?_
      show SF p e below T2 (mkF m 139 #[iv p0s, iv p1s, iv p2s, iv p3s, rv o1, rv o2, iv 1, iv 1] [(.int 0)]) _
      refine XS.iload X2.here hx rfl (hb hby at_139) rfl ?_
      show SF p e below T2 (mkF m 141 #[iv p0s, iv p1s, iv p2s, iv p3s, rv o1, rv o2, iv 1, iv 1] [(.int 1), (.int 0)]) _
      refine XS.ifYes X2.here hx rfl (pc0 := 141) (pc' := 148) rfl (hb hby at_141) rfl ((if0 _ _).trans (feq (by decide : ¬ ((1 : Int32) = (0 : Int32)))).2) (by decide) (by decide) ?_
      show SF p e below T2 (mkF m 148 #[iv p0s, iv p1s, iv p2s, iv p3s, rv o1, rv o2, iv 1, iv 1] [(.int 0)]) _
      refine XS.iconst X2.here hx rfl (hb hby at_148) ?_
      show SF p e below T2 (mkF m 149 #[iv p0s, iv p1s, iv p2s, iv p3s, rv o1, rv o2, iv 1, iv 1] [(.int 0), (.int 0)]) _
      refine XS.icmpNo X2.here hx rfl (hb hby at_149) rfl (teq (by decide : (0 : Int32) = (0 : Int32))).2 ?_
      show SF p e below T2 (mkF m 152 #[iv p0s, iv p1s, iv p2s, iv p3s, rv o1, rv o2, iv 1, iv 1] []) _
      refine XS.iconst X2.here hx rfl (hb hby at_152) ?_
      show SF p e below T2 (mkF m 153 #[iv p0s, iv p1s, iv p2s, iv p3s, rv o1, rv o2, iv 1, iv 1] [(.int 1)]) _
      refine XS.goto X2.here hx rfl (pc0 := 153) (pc' := 157) rfl (hb hby at_153) (by decide) (by decide) ?_
      show SF p e below T2 (mkF m 157 #[iv p0s, iv p1s, iv p2s, iv p3s, rv o1, rv o2, iv 1, iv 1] [(.int 1)]) _
      refine XS.istore X2.here hx rfl (hb hby at_157) rfl (l' := #[iv p0s, iv p1s, iv p2s, iv p3s, rv o1, rv o2, iv 1, iv 1]) rfl ?_
      exact k
  · by_cases hc2 : (p2s &&& (1 : Int32)) = (0 : Int32)
    · obtain ⟨_, _, ⟨T1, L1, k1x, n1⟩, -, X1, ⟨Lc1, hQ1, l1, y1, z1⟩, st1⟩ := Jvm.LawKit.callS X0 hx (y := (⟨"com/example/afterlog/afterlog/ListValueIsEmptyPinLaw", "step", "(Lcom/example/afterlog/afterlog/ListValue;II[B)I"⟩ : MethodName)) hown (mvT hZ (tw hw 21 rfl)) (mvT hZ (tw hw 22 rfl)) (mvT hZ (tw hw 23 rfl)) (mvT hZ (tw hw 24 rfl)) (by decide) (backOf (W := 0) (rm4_43 l Z a0 hw [] o2 p2s o1 w2 o3 kk2 ii1 h0 n0 Z0 hc1 Sg2 O0 hc2 P3 P6 P4 P7 P5 P10 P13 P9 (Ne.symm P19) P8 P2 P15) hZ (tw hw 24 rfl) (tw hw 23 rfl) (by decide) (by decide)) (g := (mkF m 124 #[iv p0s, iv p1s, iv p2s, iv p3s, rv o1, rv o2, iv 1, iv 0] [(.ref o1), (.int p2s), (.int 0), (.ref o2)])) rfl (by rw [hml]; rfl) (argsL := [(.ref o2), (.int 0), (.int p2s), (.ref o1)]) (rest := []) (lenOf pd_4 rfl) rfl (by show 2 * 0 + _ ≤ _; exact Nat.le_of_eq rfl) (hb hby at_124) (fun _ _ => ⟨rfl, e0, (by decide : 3 + 0 ≤ _), (by decide : 12 + 0 ≤ _)⟩)
      dsimp only [Pt.U, Pt.locs, Pt.cells, Pt.slots] at X1 l1 y1 z1 st1 hQ1
      subst l1 y1 z1
      obtain ⟨i12, bx_i12, rfl, N1q, K1c, Fq1_0, Fq1_1, Fq1_2, Fq1_3, Fq1_4, Fq1_5⟩ := hQ1
      have N1 := Fr.app N0 N1q
      have Z1 : n0 ≤ T1.heap.size := Nat.le_trans Z0 K1c.1
      obtain ⟨cq2, kq2, q2a, q2b, q2c⟩ := isOf hZ rfl Fq1_0
      obtain ⟨_, _, ⟨T2, L2, k2x, n2⟩, -, X2, ⟨Lc2, hQ2, l2, y2, z2⟩, st2⟩ := X1.virtualBack hx (y := (⟨"com/example/afterlog/afterlog/ListValue", "isEmpty", "()Z"⟩ : MethodName)) (z := (⟨"com/example/afterlog/afterlog/ListValue", "isEmpty", "()Z"⟩ : MethodName)) hown (mvT hZ (tw hw 14 rfl)) (mvT hZ (tw hw 15 rfl)) (notFace_of_selects (args := #[]) (mvT hZ (tw hw 17 rfl))) (mvT hZ (tw hw 17 rfl)) (mvT hZ (tw hw 16 rfl)) (by decide) (backOf (W := 0) (rm3_7 l Z a0 hw [] o2 T1.heap n0 Z1 Fq1_1) hZ (tw hw 18 rfl) (tw hw 3 rfl) (by decide) (by decide)) q2a q2c (g := (mkF m 136 #[iv p0s, iv p1s, iv p2s, iv p3s, rv o1, rv o2, iv 1, iv 1] [(.ref o2)])) rfl (by rw [hml]; rfl) (Steps.refl _) (argsL := []) (rest := []) (lenOf pd_1 rfl) rfl (by show 2 * 0 + _ ≤ _; exact Nat.le_of_eq rfl) (hb hby at_136) (fun _ _ => ⟨rfl, rfl, (by decide : 3 + 0 ≤ _), (by decide : 12 + 0 ≤ _)⟩)
      dsimp only [Pt.U, Pt.locs, Pt.cells, Pt.slots] at X2 l2 y2 z2 st2 hQ2
      subst l2 y2 z2
      obtain ⟨rfl, N2q, e2⟩ := hQ2
      have N2 := Fr.app N1 N2q
      have F1_3 : Arv Z T1.heap o1 kk1 .byte (1 : Int32) [(.int (nar .byte ((p0s &&& (127 : Int32)).toInt8.toInt32)))] (.int (0 : Int32)) := P1.keep K1c (ninS P17 (ninS P18 nin0))
      have F1_4 : Exa Z T1.heap o1 "[B" := P2.keep K1c
      have lt_o1_1 : o1 < T1.heap.size := Nat.lt_of_lt_of_le P12 K1c.1
      have lt_o2_1 : o2 < T1.heap.size := Nat.lt_of_lt_of_le P14 K1c.1
      have lt_o3_1 : o3 < T1.heap.size := Nat.lt_of_lt_of_le P16 K1c.1
      have O1 : Old Z n0 T1.heap := O0.keep K1c (allS P13 (allS P15 all0))
      refine Fine.pre (fun t k => pre0 _ (?_)) (pc_4 (o1 := o1) (o2 := o2) (kk1 := kk1) (o3 := o3) (kk2 := kk2) (ii1 := i12) X2 hx hZ hw hby hml hown hre hlk e2 N2 Z1 O1 Sg0 E_w1 Sg2 E_w2 F_w1_ordinal F_w2_ordinal F1_3 F1_4 Fq1_0 Fq1_2 Fq1_3 Fq1_1 Fq1_5 P8 Fq1_4 bx_i12 P11 lt_o1_1 P13 lt_o2_1 P15 lt_o3_1 P17 P18 P19)
      show SF p e below T0 (mkF m 124 #[iv p0s, iv p1s, iv p2s, iv p3s, rv o1, rv o2, iv 1, iv 0] [(.ref o1), (.int p2s), (.int 0), (.ref o2)]) _
      refine st1 _ ?_
      show SF p e below T1 (mkF m 127 #[iv p0s, iv p1s, iv p2s, iv p3s, rv o1, rv o2, iv 1, iv 0] [(.int 1)]) _
      refine XS.istore X1.here hx rfl (hb hby at_127) rfl (l' := #[iv p0s, iv p1s, iv p2s, iv p3s, rv o1, rv o2, iv 1, iv 1]) rfl ?_
      show SF p e below T1 (mkF m 129 #[iv p0s, iv p1s, iv p2s, iv p3s, rv o1, rv o2, iv 1, iv 1] []) _
      refine XS.iload X1.here hx rfl (hb hby at_129) rfl ?_
      show SF p e below T1 (mkF m 131 #[iv p0s, iv p1s, iv p2s, iv p3s, rv o1, rv o2, iv 1, iv 1] [(.int 1)]) _
      refine XS.ifNo X1.here hx rfl (hb hby at_131) rfl ((if0 _ _).trans (feq (by decide : ¬ ((1 : Int32) = (0 : Int32)))).1) ?_
      show SF p e below T1 (mkF m 134 #[iv p0s, iv p1s, iv p2s, iv p3s, rv o1, rv o2, iv 1, iv 1] []) _
      refine XS.aload X1.here hx rfl (hb hby at_134) rfl rfl ?_
      show SF p e below T1 (mkF m 136 #[iv p0s, iv p1s, iv p2s, iv p3s, rv o1, rv o2, iv 1, iv 1] [(.ref o2)]) _
      refine st2.trans ?_
      show SF p e below T2 (mkF m 139 #[iv p0s, iv p1s, iv p2s, iv p3s, rv o1, rv o2, iv 1, iv 1] [(.int 0)]) _
      refine XS.iload X2.here hx rfl (hb hby at_139) rfl ?_
      show SF p e below T2 (mkF m 141 #[iv p0s, iv p1s, iv p2s, iv p3s, rv o1, rv o2, iv 1, iv 1] [(.int 1), (.int 0)]) _
      refine XS.ifYes X2.here hx rfl (pc0 := 141) (pc' := 148) rfl (hb hby at_141) rfl ((if0 _ _).trans (feq (by decide : ¬ ((1 : Int32) = (0 : Int32)))).2) (by decide) (by decide) ?_
      show SF p e below T2 (mkF m 148 #[iv p0s, iv p1s, iv p2s, iv p3s, rv o1, rv o2, iv 1, iv 1] [(.int 0)]) _
      refine XS.iconst X2.here hx rfl (hb hby at_148) ?_
      show SF p e below T2 (mkF m 149 #[iv p0s, iv p1s, iv p2s, iv p3s, rv o1, rv o2, iv 1, iv 1] [(.int 0), (.int 0)]) _
      refine XS.icmpNo X2.here hx rfl (hb hby at_149) rfl (teq (by decide : (0 : Int32) = (0 : Int32))).2 ?_
      show SF p e below T2 (mkF m 152 #[iv p0s, iv p1s, iv p2s, iv p3s, rv o1, rv o2, iv 1, iv 1] []) _
      refine XS.iconst X2.here hx rfl (hb hby at_152) ?_
      show SF p e below T2 (mkF m 153 #[iv p0s, iv p1s, iv p2s, iv p3s, rv o1, rv o2, iv 1, iv 1] [(.int 1)]) _
      refine XS.goto X2.here hx rfl (pc0 := 153) (pc' := 157) rfl (hb hby at_153) (by decide) (by decide) ?_
      show SF p e below T2 (mkF m 157 #[iv p0s, iv p1s, iv p2s, iv p3s, rv o1, rv o2, iv 1, iv 1] [(.int 1)]) _
      refine XS.istore X2.here hx rfl (hb hby at_157) rfl (l' := #[iv p0s, iv p1s, iv p2s, iv p3s, rv o1, rv o2, iv 1, iv 1]) rfl ?_
      exact k
    · obtain ⟨_, _, ⟨T1, L1, k1x, n1⟩, -, X1, ⟨Lc1, hQ1, l1, y1, z1⟩, st1⟩ := Jvm.LawKit.callS X0 hx (y := (⟨"com/example/afterlog/afterlog/ListValueIsEmptyPinLaw", "step", "(Lcom/example/afterlog/afterlog/ListValue;II[B)I"⟩ : MethodName)) hown (mvT hZ (tw hw 21 rfl)) (mvT hZ (tw hw 22 rfl)) (mvT hZ (tw hw 23 rfl)) (mvT hZ (tw hw 24 rfl)) (by decide) (backOf (W := 0) (rm4_44 l Z a0 hw [] o2 p2s o1 w2 o3 kk2 ii1 h0 n0 Z0 hc1 Sg2 O0 hc2 P3 P6 P4 P7 P5 P10 P13 P9 (Ne.symm P19) P8 P2 P15) hZ (tw hw 24 rfl) (tw hw 23 rfl) (by decide) (by decide)) (g := (mkF m 124 #[iv p0s, iv p1s, iv p2s, iv p3s, rv o1, rv o2, iv 1, iv 0] [(.ref o1), (.int p2s), (.int 0), (.ref o2)])) rfl (by rw [hml]; rfl) (argsL := [(.ref o2), (.int 0), (.int p2s), (.ref o1)]) (rest := []) (lenOf pd_4 rfl) rfl (by show 2 * 0 + _ ≤ _; exact Nat.le_of_eq rfl) (hb hby at_124) (fun _ _ => ⟨rfl, e0, (by decide : 3 + 0 ≤ _), (by decide : 12 + 0 ≤ _)⟩)
      dsimp only [Pt.U, Pt.locs, Pt.cells, Pt.slots] at X1 l1 y1 z1 st1 hQ1
      subst l1 y1 z1
      obtain ⟨i12, bx_i12, rfl, N1q, K1c, Fq1_0, Fq1_1, Fq1_2, Fq1_3, Fq1_4, Fq1_5⟩ := hQ1
      have N1 := Fr.app N0 N1q
      have Z1 : n0 ≤ T1.heap.size := Nat.le_trans Z0 K1c.1
      obtain ⟨cq2, kq2, q2a, q2b, q2c⟩ := isOf hZ rfl Fq1_0
      obtain ⟨_, _, ⟨T2, L2, k2x, n2⟩, -, X2, ⟨Lc2, hQ2, l2, y2, z2⟩, st2⟩ := X1.virtualBack hx (y := (⟨"com/example/afterlog/afterlog/ListValue", "isEmpty", "()Z"⟩ : MethodName)) (z := (⟨"com/example/afterlog/afterlog/ListValue", "isEmpty", "()Z"⟩ : MethodName)) hown (mvT hZ (tw hw 14 rfl)) (mvT hZ (tw hw 15 rfl)) (notFace_of_selects (args := #[]) (mvT hZ (tw hw 17 rfl))) (mvT hZ (tw hw 17 rfl)) (mvT hZ (tw hw 16 rfl)) (by decide) (backOf (W := 0) (rm3_7 l Z a0 hw [] o2 T1.heap n0 Z1 Fq1_1) hZ (tw hw 18 rfl) (tw hw 3 rfl) (by decide) (by decide)) q2a q2c (g := (mkF m 136 #[iv p0s, iv p1s, iv p2s, iv p3s, rv o1, rv o2, iv 1, iv 1] [(.ref o2)])) rfl (by rw [hml]; rfl) (Steps.refl _) (argsL := []) (rest := []) (lenOf pd_1 rfl) rfl (by show 2 * 0 + _ ≤ _; exact Nat.le_of_eq rfl) (hb hby at_136) (fun _ _ => ⟨rfl, rfl, (by decide : 3 + 0 ≤ _), (by decide : 12 + 0 ≤ _)⟩)
      dsimp only [Pt.U, Pt.locs, Pt.cells, Pt.slots] at X2 l2 y2 z2 st2 hQ2
      subst l2 y2 z2
      obtain ⟨rfl, N2q, e2⟩ := hQ2
      have N2 := Fr.app N1 N2q
      have F1_3 : Arv Z T1.heap o1 kk1 .byte (1 : Int32) [(.int (nar .byte ((p0s &&& (127 : Int32)).toInt8.toInt32)))] (.int (0 : Int32)) := P1.keep K1c (ninS P17 (ninS P18 nin0))
      have F1_4 : Exa Z T1.heap o1 "[B" := P2.keep K1c
      have lt_o1_1 : o1 < T1.heap.size := Nat.lt_of_lt_of_le P12 K1c.1
      have lt_o2_1 : o2 < T1.heap.size := Nat.lt_of_lt_of_le P14 K1c.1
      have lt_o3_1 : o3 < T1.heap.size := Nat.lt_of_lt_of_le P16 K1c.1
      have O1 : Old Z n0 T1.heap := O0.keep K1c (allS P13 (allS P15 all0))
      refine Fine.pre (fun t k => pre0 _ (?_)) (pc_4 (o1 := o1) (o2 := o2) (kk1 := kk1) (o3 := o3) (kk2 := kk2) (ii1 := i12) X2 hx hZ hw hby hml hown hre hlk e2 N2 Z1 O1 Sg0 E_w1 Sg2 E_w2 F_w1_ordinal F_w2_ordinal F1_3 F1_4 Fq1_0 Fq1_2 Fq1_3 Fq1_1 Fq1_5 P8 Fq1_4 bx_i12 P11 lt_o1_1 P13 lt_o2_1 P15 lt_o3_1 P17 P18 P19)
      show SF p e below T0 (mkF m 124 #[iv p0s, iv p1s, iv p2s, iv p3s, rv o1, rv o2, iv 1, iv 0] [(.ref o1), (.int p2s), (.int 0), (.ref o2)]) _
      refine st1 _ ?_
      show SF p e below T1 (mkF m 127 #[iv p0s, iv p1s, iv p2s, iv p3s, rv o1, rv o2, iv 1, iv 0] [(.int 1)]) _
      refine XS.istore X1.here hx rfl (hb hby at_127) rfl (l' := #[iv p0s, iv p1s, iv p2s, iv p3s, rv o1, rv o2, iv 1, iv 1]) rfl ?_
      show SF p e below T1 (mkF m 129 #[iv p0s, iv p1s, iv p2s, iv p3s, rv o1, rv o2, iv 1, iv 1] []) _
      refine XS.iload X1.here hx rfl (hb hby at_129) rfl ?_
      show SF p e below T1 (mkF m 131 #[iv p0s, iv p1s, iv p2s, iv p3s, rv o1, rv o2, iv 1, iv 1] [(.int 1)]) _
      refine XS.ifNo X1.here hx rfl (hb hby at_131) rfl ((if0 _ _).trans (feq (by decide : ¬ ((1 : Int32) = (0 : Int32)))).1) ?_
      show SF p e below T1 (mkF m 134 #[iv p0s, iv p1s, iv p2s, iv p3s, rv o1, rv o2, iv 1, iv 1] []) _
      refine XS.aload X1.here hx rfl (hb hby at_134) rfl rfl ?_
      show SF p e below T1 (mkF m 136 #[iv p0s, iv p1s, iv p2s, iv p3s, rv o1, rv o2, iv 1, iv 1] [(.ref o2)]) _
      refine st2.trans ?_
      show SF p e below T2 (mkF m 139 #[iv p0s, iv p1s, iv p2s, iv p3s, rv o1, rv o2, iv 1, iv 1] [(.int 0)]) _
      refine XS.iload X2.here hx rfl (hb hby at_139) rfl ?_
      show SF p e below T2 (mkF m 141 #[iv p0s, iv p1s, iv p2s, iv p3s, rv o1, rv o2, iv 1, iv 1] [(.int 1), (.int 0)]) _
      refine XS.ifYes X2.here hx rfl (pc0 := 141) (pc' := 148) rfl (hb hby at_141) rfl ((if0 _ _).trans (feq (by decide : ¬ ((1 : Int32) = (0 : Int32)))).2) (by decide) (by decide) ?_
      show SF p e below T2 (mkF m 148 #[iv p0s, iv p1s, iv p2s, iv p3s, rv o1, rv o2, iv 1, iv 1] [(.int 0)]) _
      refine XS.iconst X2.here hx rfl (hb hby at_148) ?_
      show SF p e below T2 (mkF m 149 #[iv p0s, iv p1s, iv p2s, iv p3s, rv o1, rv o2, iv 1, iv 1] [(.int 0), (.int 0)]) _
      refine XS.icmpNo X2.here hx rfl (hb hby at_149) rfl (teq (by decide : (0 : Int32) = (0 : Int32))).2 ?_
      show SF p e below T2 (mkF m 152 #[iv p0s, iv p1s, iv p2s, iv p3s, rv o1, rv o2, iv 1, iv 1] []) _
      refine XS.iconst X2.here hx rfl (hb hby at_152) ?_
      show SF p e below T2 (mkF m 153 #[iv p0s, iv p1s, iv p2s, iv p3s, rv o1, rv o2, iv 1, iv 1] [(.int 1)]) _
      refine XS.goto X2.here hx rfl (pc0 := 153) (pc' := 157) rfl (hb hby at_153) (by decide) (by decide) ?_
      show SF p e below T2 (mkF m 157 #[iv p0s, iv p1s, iv p2s, iv p3s, rv o1, rv o2, iv 1, iv 1] [(.int 1)]) _
      refine XS.istore X2.here hx rfl (hb hby at_157) rfl (l' := #[iv p0s, iv p1s, iv p2s, iv p3s, rv o1, rv o2, iv 1, iv 1]) rfl ?_
      exact k
-- ListValue.push 
def Q5_45 (Z : State) (u1 : Addr) (w2 : Addr) (u2 : Addr) (u3 : Addr) (u4 : ClassId) (u5 : Int32) (h0 : Heap) (n0 : Nat) (v : Option Value) (h : Heap) (L : List Loc) : Prop := ∃ e1x : Int32, (¬ e1x < (0 : Int32) ∧ e1x < (8 : Int32)) ∧ v = none ∧ Fr n0 L ∧ Keep h0 h [u1, u3] ∧ Fld Z h u1 "com/example/afterlog/afterlog/ListValue" "size" "I" (.int 2) ∧ Fld Z h u1 "com/example/afterlog/afterlog/ListValue" "elements" "[[B" (.ref u3) ∧ Exa Z h u1 "com/example/afterlog/afterlog/ListValue" ∧ Fld Z h u1 "com/example/afterlog/afterlog/ListValue" "head" "I" (.int e1x) ∧ Ary Z h u3 u4 (.array .byte) (8 : Int32) ∧ Exa Z h u3 "[[B"
set_option maxRecDepth 65536 in
set_option maxHeartbeats 40000000 in
theorem rm5_45 (l : Launch) (Z : State) (a0 : Array Value) (hw : HW Z a0) (ws : List Jvm.Cond) (u1 : Addr) (w2 : Addr) (u2 : Addr) (u3 : Addr) (u4 : ClassId) (u5 : Int32) (h0 : Heap) (n0 : Nat) (Z0 : n0 ≤ h0.size) (P1 : Fld Z h0 u1 "com/example/afterlog/afterlog/ListValue" "size" "I" (.int 1)) (P2 : Fld Z h0 u1 "com/example/afterlog/afterlog/ListValue" "elements" "[[B" (.ref u3)) (P3 : Ary Z h0 u3 u4 (.array .byte) (8 : Int32)) (Sg2 : Sta Z Z.heap "com/example/afterlog/afterlog/ListValue$End" "HEAD" "Lcom/example/afterlog/afterlog/ListValue$End;" (.ref w2)) (P5 : Old Z n0 h0) (P6 : Exa Z h0 u1 "com/example/afterlog/afterlog/ListValue") (P7 : Fld Z h0 u1 "com/example/afterlog/afterlog/ListValue" "head" "I" (.int u5)) (P8 : ¬ u5 < (0 : Int32) ∧ u5 < (8 : Int32)) (P9 : n0 ≤ u1) (P10 : Exa Z h0 u3 "[[B") (P11 : u3 ≠ u1) (P12 : OvrA Z u4 .byte "[B") (P13 : Exa Z h0 u2 "[B") (P14 : n0 ≤ u3) :
    MF l Z (⟨"com/example/afterlog/afterlog/ListValue", "push", "(Lcom/example/afterlog/afterlog/ListValue$End;[B)V"⟩ : MethodName) (Jvm.Cond.code (⟨"com/example/afterlog/afterlog/ListValue", "push", "(Lcom/example/afterlog/afterlog/ListValue$End;[B)V"⟩ : MethodName) prog_24_method_6_code 3 none) ws ({ frames := 1, cells := 0, slots := 0, locals := 15 } : Room) #[(.ref u1), (.ref w2), (.ref u2)] h0 (Q5_45 Z u1 w2 u2 u3 u4 u5 h0 n0) := by
  refine MetFree.of_bodySF (plainFor_of_name pn_0) hisR ?_
  intro p e s m args below meth c s₁ Bd hml0 hP hK
  obtain ⟨rfl, hZ, hh⟩ := hP
  have hx := Bd.exec
  have hby := Bd.bytes
  have hml : c.maxLocals = 3 := hml0
  have hown : s.vm.findClass "com/example/afterlog/afterlog/ListValue" = some m.cls := findClass_of_methodNamed Bd.named
  have hnm := (name_of_methodNamed Bd.named Bd.method).1
  have X0 : Stand p l e ({ frames := 1, cells := 0, slots := 0, locals := 15 } : Room) s m #[(.ref u1), (.ref w2), (.ref u2)] below meth c s₁ [] 0 0 := Stand.of_body Bd
  have e0 : s₁.heap = h0 := by rw [← hh, Bd.state]; rfl
  have N0 := Fr.nil n0
  have pre0 : ∀ t, SF p e below s₁ (mkF m 0 #[rv u1, rv w2, rv u2] []) t → SF p e below s₁ (entryFrame m #[(.ref u1), (.ref w2), (.ref u2)] 3) t := fun t k => castTop (ef_3 m u1 w2 u2) k
  obtain ⟨T1, X1, e1, st1⟩ := getF X0 hx hZ hown (host := "") (Or.inl (tw hw 19 rfl)) Via.refl e0 P1 (g := (mkF m 1 #[rv u1, rv w2, rv u2] [(.ref u1)])) rfl rfl (hb hby d5_1)
  obtain ⟨T2, X2, e2, st2⟩ := getF X1 hx hZ hown (host := "") (Or.inl (tw hw 12 rfl)) Via.refl e1 P2 (g := (mkF m 5 #[rv u1, rv w2, rv u2] [(.ref u1), (.int 1)])) rfl rfl (hb hby d5_5)
  obtain ⟨cl3, Ar3, q3, S3, N3z, H3⟩ := id P3
  obtain ⟨T4, X4, e4, st4⟩ := getS2 X2 hx hZ hown (host := "") (Or.inl (tw hw 33 rfl)) Via.refl e2 (Sg2.ext P5.2) (g := (mkF m 17 #[rv u1, rv w2, rv u2] [(.ref w2)])) rfl (hb hby d5_17)
  obtain ⟨T5, X5, e5, st5⟩ := getF X4 hx hZ hown (host := "") (Or.inl (tw hw 12 rfl)) Via.refl e4 P2 (g := (mkF m 26 #[rv u1, rv w2, rv u2] [(.ref u1), (.ref u1), (.ref u1)])) rfl rfl (hb hby d5_26)
  obtain ⟨cl6, Ar6, q6, S6, N6z, H6⟩ := id P3
  obtain ⟨cq7, q7, q7'⟩ := P6.cell
  obtain ⟨_, _, ⟨T7, L7, k7x, n7⟩, -, X7, ⟨Lc7, hQ7, l7, y7, z7⟩, st7⟩ := X5.privateBack hx (y := (⟨"com/example/afterlog/afterlog/ListValue", "slot", "(I)I"⟩ : MethodName)) hown (mvT hZ (tw hw 35 rfl)) (mvT hZ (tw hw 36 rfl)) (own_selP hZ (tw hw 2 rfl) (tw hw 37 rfl) (tw hw 36 rfl) (by decide)) (Cond.privateMethod_at (mvP hZ (tw hw 37 rfl) (args := #[]))) (mvT hZ (tw hw 38 rfl)) (by decide) (backOf (W := 1) (own_slot l Z a0 hw [] u1 u3 u4 u5 (7 : Int32) h0 n0 Z0 P2 P7 P3 P8 ⟨by decide, by decide⟩) hZ (tw hw 38 rfl) (tw hw 3 rfl) (by decide) (by decide)) (g := (mkF m 32 #[rv u1, rv w2, rv u2] [(.int 7), (.ref u1), (.ref u1)])) rfl (by rw [hml]; rfl) (Steps.refl _) (a := u1) (by rw [e5]; exact q7) q7' (argsL := [(.int 7)]) (rest := [(.ref u1)]) (lenOf pd_2 rfl) rfl (by show 2 * 0 + _ ≤ _; exact Nat.le_of_eq rfl) (hb hby d5_32) (fun _ _ => ⟨rfl, e5, (by decide : 0 + 0 ≤ _), (by decide : 0 + 0 ≤ _)⟩)
  dsimp only [Pt.U, Pt.locs, Pt.cells, Pt.slots] at X7 l7 y7 z7 st7 hQ7
  subst l7 y7 z7
  obtain ⟨e1x, bx_i7, rfl, N7q, e7⟩ := hQ7
  have N7 := Fr.app N0 N7q
  obtain ⟨T8, h8, X8, e8, W8, st8⟩ := putF X7 hx hZ hown (host := "") (Or.inl (tw hw 39 rfl)) Via.refl e7 P7 P6 (Or.inl (tw hw 40 rfl)) (tw hw 2 rfl) (ty := .int) (by decide) rfl rfl (g := (mkF m 35 #[rv u1, rv w2, rv u2] [(.int e1x), (.ref u1)])) rfl rfl (hb hby d5_35)
  have K8 : Keep h0 h8 [u1, u3] := (Keep.refl h0 [u1, u3]).wr W8 (Or.inl (List.mem_of_getElem? (i := 0) rfl))
  have N8 := Fr.snoc X8 N7 P9
  have Fw8 : Fld Z h8 u1 "com/example/afterlog/afterlog/ListValue" "head" "I" (.int e1x) := P7.same W8
  have F1_9 : Fld Z h8 u1 "com/example/afterlog/afterlog/ListValue" "elements" "[[B" (.ref u3) := P2.other W8 (Or.inr (slot_ne (Or.inl (tw hw 13 rfl)) (Or.inl (tw hw 40 rfl)) (by decide) (t := (.array (.array .byte))) (t' := .int) (by decide) (by decide)))
  obtain ⟨T10, X10, e10, st10⟩ := getF X8 hx hZ hown (host := "") (Or.inl (tw hw 12 rfl)) Via.refl e8 F1_9 (g := (mkF m 39 #[rv u1, rv w2, rv u2] [(.ref u1)])) rfl rfl (hb hby d5_39)
  obtain ⟨T11, X11, e11, st11⟩ := getF X10 hx hZ hown (host := "") (Or.inl (tw hw 39 rfl)) Via.refl e10 Fw8 (g := (mkF m 43 #[rv u1, rv w2, rv u2] [(.ref u1), (.ref u3)])) rfl rfl (hb hby d5_43)
  have F1_12 : Exa Z h8 u3 "[[B" := P10.wr W8
  have F1_13 : Ary Z h8 u3 u4 (.array .byte) (8 : Int32) := P3.other W8 P11
  obtain ⟨cl14, Ar14, q14, S14, N14z, H14⟩ := id F1_13
  have hin14 : ¬ (e1x < 0 ∨ cl14.slots.size ≤ (e1x).toNatClampNeg) := inb_of S14 ⟨(bx_i7).1, (bx_i7).2⟩
  have F1_15 : Exa Z h8 u2 "[B" := P13.wr W8
  obtain ⟨T16, h16, X16, e16, W16, st16⟩ := stR X11 hx hZ e11 Ar14 (j := e1x) hin14 rfl (Sto.ofVA Ar14 q14 P12 (Ins.self F1_15)) (g := (mkF m 47 #[rv u1, rv w2, rv u2] [(.ref u2), (.int e1x), (.ref u3)])) rfl rfl (hb hby d5_47)
  have K16 : Keep h0 h16 [u1, u3] := K8.wr W16 (Or.inl (List.mem_of_getElem? (i := 1) rfl))
  have N16 := Fr.snoc X16 N8 P14
  have V16 : Ary Z h16 u3 u4 (.array .byte) (8 : Int32) := Ary.set Ar14 q14 S14 N14z H14 rfl W16
  have F1_17 : Fld Z h8 u1 "com/example/afterlog/afterlog/ListValue" "size" "I" (.int 1) := P1.other W8 (Or.inr (slot_ne (Or.inl (tw hw 20 rfl)) (Or.inl (tw hw 40 rfl)) (by decide) (t := .int) (t' := .int) (by decide) (by decide)))
  have F2_18 : Fld Z h16 u1 "com/example/afterlog/afterlog/ListValue" "size" "I" (.int 1) := F1_17.other W16 (Or.inl (Ne.symm P11))
  obtain ⟨T19, X19, e19, st19⟩ := getF X16 hx hZ hown (host := "") (Or.inl (tw hw 19 rfl)) Via.refl e16 F2_18 (g := (mkF m 67 #[rv u1, rv w2, rv u2] [(.ref u1), (.ref u1)])) rfl rfl (hb hby d5_67)
  have F1_20 : Exa Z h8 u1 "com/example/afterlog/afterlog/ListValue" := P6.wr W8
  have F2_21 : Exa Z h16 u1 "com/example/afterlog/afterlog/ListValue" := F1_20.wr W16
  have F2_22 : Fld Z h16 u1 "com/example/afterlog/afterlog/ListValue" "elements" "[[B" (.ref u3) := F1_9.other W16 (Or.inl (Ne.symm P11))
  have F2_23 : Fld Z h16 u1 "com/example/afterlog/afterlog/ListValue" "head" "I" (.int e1x) := Fw8.other W16 (Or.inl (Ne.symm P11))
  obtain ⟨T24, h24, X24, e24, W24, st24⟩ := putF X19 hx hZ hown (host := "") (Or.inl (tw hw 19 rfl)) Via.refl e19 F2_18 F2_21 (Or.inl (tw hw 20 rfl)) (tw hw 2 rfl) (ty := .int) (by decide) rfl rfl (g := (mkF m 72 #[rv u1, rv w2, rv u2] [(.int 2), (.ref u1)])) rfl rfl (hb hby d5_72)
  have K24 : Keep h0 h24 [u1, u3] := K16.wr W24 (Or.inl (List.mem_of_getElem? (i := 0) rfl))
  have N24 := Fr.snoc X24 N16 P9
  have Fw24 : Fld Z h24 u1 "com/example/afterlog/afterlog/ListValue" "size" "I" (.int 2) := F2_18.same W24
  have F3_25 : Fld Z h24 u1 "com/example/afterlog/afterlog/ListValue" "elements" "[[B" (.ref u3) := F2_22.other W24 (Or.inr (slot_ne (Or.inl (tw hw 13 rfl)) (Or.inl (tw hw 20 rfl)) (by decide) (t := (.array (.array .byte))) (t' := .int) (by decide) (by decide)))
  have F3_26 : Exa Z h24 u1 "com/example/afterlog/afterlog/ListValue" := F2_21.wr W24
  have F3_27 : Fld Z h24 u1 "com/example/afterlog/afterlog/ListValue" "head" "I" (.int e1x) := F2_23.other W24 (Or.inr (slot_ne (Or.inl (tw hw 40 rfl)) (Or.inl (tw hw 20 rfl)) (by decide) (t := .int) (t' := .int) (by decide) (by decide)))
  have F3_28 : Ary Z h24 u3 u4 (.array .byte) (8 : Int32) := V16.other W24 P11
  have F2_29 : Exa Z h16 u3 "[[B" := F1_12.wr W16
  have F3_30 : Exa Z h24 u3 "[[B" := F2_29.wr W24
  obtain ⟨fs, hr, hrun, hended, hW, hsame⟩ := X24.leave (v := none) (fun _ => rfl)
  refine ⟨_, _, pre0 _ ?_, hrun, hended, _, _, rfl, ?_, ⟨_, rfl⟩, hW, hsame.mono (by decide) (by decide)⟩
  · show SF p e below s₁ (mkF m 0 #[rv u1, rv w2, rv u2] []) _
    refine XS.aloadN X0.here hx rfl (hb hby d5_0) rfl rfl ?_
    show SF p e below s₁ (mkF m 1 #[rv u1, rv w2, rv u2] [(.ref u1)]) _
    refine st1 _ ?_
    show SF p e below T1 (mkF m 4 #[rv u1, rv w2, rv u2] [(.int 1)]) _
    refine XS.aloadN X1.here hx rfl (hb hby d5_4) rfl rfl ?_
    show SF p e below T1 (mkF m 5 #[rv u1, rv w2, rv u2] [(.ref u1), (.int 1)]) _
    refine st2 _ ?_
    show SF p e below T2 (mkF m 8 #[rv u1, rv w2, rv u2] [(.ref u3), (.int 1)]) _
    refine X2.arraylength hx (by rw [e2]; exact Ar3.1) (State.isArrayOf_alike hZ.alike Ar3.2.1) (g := (mkF m 8 #[rv u1, rv w2, rv u2] [(.ref u3), (.int 1)])) rfl rfl (hb hby d5_8) _ ?_
    rw [len_of S3 N3z]
    show SF p e below T2 (mkF m 9 #[rv u1, rv w2, rv u2] [(.int 8), (.int 1)]) _
    refine XS.icmpYes X2.here hx rfl (pc0 := 9) (pc' := 16) rfl (hb hby d5_9) rfl (feq (by decide : ¬ ((1 : Int32) = (8 : Int32)))).2 (by decide) (by decide) ?_
    show SF p e below T2 (mkF m 16 #[rv u1, rv w2, rv u2] []) _
    refine XS.aloadN X2.here hx rfl (hb hby d5_16) rfl rfl ?_
    show SF p e below T2 (mkF m 17 #[rv u1, rv w2, rv u2] [(.ref w2)]) _
    refine st4 _ ?_
    show SF p e below T4 (mkF m 20 #[rv u1, rv w2, rv u2] [(.ref w2), (.ref w2)]) _
    refine Jvm.RoadKit.acmp (g := (mkF m 20 #[rv u1, rv w2, rv u2] [(.ref w2), (.ref w2)])) X4 hx rfl rfl rfl (pc0 := 20) (pc' := 23) (same := true) rfl (hb hby d5_20) rfl (decide_eq_true rfl) (by decide) (by decide) ?_
    show SF p e below T4 (mkF m 23 #[rv u1, rv w2, rv u2] []) _
    refine XS.aloadN X4.here hx rfl (hb hby d5_23) rfl rfl ?_
    show SF p e below T4 (mkF m 24 #[rv u1, rv w2, rv u2] [(.ref u1)]) _
    refine XS.aloadN X4.here hx rfl (hb hby d5_24) rfl rfl ?_
    show SF p e below T4 (mkF m 25 #[rv u1, rv w2, rv u2] [(.ref u1), (.ref u1)]) _
    refine XS.aloadN X4.here hx rfl (hb hby d5_25) rfl rfl ?_
    show SF p e below T4 (mkF m 26 #[rv u1, rv w2, rv u2] [(.ref u1), (.ref u1), (.ref u1)]) _
    refine st5 _ ?_
    show SF p e below T5 (mkF m 29 #[rv u1, rv w2, rv u2] [(.ref u3), (.ref u1), (.ref u1)]) _
    refine X5.arraylength hx (by rw [e5]; exact Ar6.1) (State.isArrayOf_alike hZ.alike Ar6.2.1) (g := (mkF m 29 #[rv u1, rv w2, rv u2] [(.ref u3), (.ref u1), (.ref u1)])) rfl rfl (hb hby d5_29) _ ?_
    rw [len_of S6 N6z]
    show SF p e below T5 (mkF m 30 #[rv u1, rv w2, rv u2] [(.int 8), (.ref u1), (.ref u1)]) _
    refine XS.iconst X5.here hx rfl (hb hby d5_30) ?_
    show SF p e below T5 (mkF m 31 #[rv u1, rv w2, rv u2] [(.int 1), (.int 8), (.ref u1), (.ref u1)]) _
    refine XS.isub X5.here hx rfl (hb hby d5_31) rfl ?_
    show SF p e below T5 (mkF m 32 #[rv u1, rv w2, rv u2] [(.int ((8 : Int32) - (1 : Int32))), (.ref u1), (.ref u1)]) _
    rw [show ((8 : Int32) - (1 : Int32)) = (7 : Int32) from by decide]
    show SF p e below T5 (mkF m 32 #[rv u1, rv w2, rv u2] [(.int 7), (.ref u1), (.ref u1)]) _
    refine st7.trans ?_
    show SF p e below T7 (mkF m 35 #[rv u1, rv w2, rv u2] [(.int e1x), (.ref u1)]) _
    refine st8 _ ?_
    show SF p e below T8 (mkF m 38 #[rv u1, rv w2, rv u2] []) _
    refine XS.aloadN X8.here hx rfl (hb hby d5_38) rfl rfl ?_
    show SF p e below T8 (mkF m 39 #[rv u1, rv w2, rv u2] [(.ref u1)]) _
    refine st10 _ ?_
    show SF p e below T10 (mkF m 42 #[rv u1, rv w2, rv u2] [(.ref u3)]) _
    refine XS.aloadN X10.here hx rfl (hb hby d5_42) rfl rfl ?_
    show SF p e below T10 (mkF m 43 #[rv u1, rv w2, rv u2] [(.ref u1), (.ref u3)]) _
    refine st11 _ ?_
    show SF p e below T11 (mkF m 46 #[rv u1, rv w2, rv u2] [(.int e1x), (.ref u3)]) _
    refine XS.aloadN X11.here hx rfl (hb hby d5_46) rfl rfl ?_
    show SF p e below T11 (mkF m 47 #[rv u1, rv w2, rv u2] [(.ref u2), (.int e1x), (.ref u3)]) _
    refine st16 _ ?_
    show SF p e below T16 (mkF m 48 #[rv u1, rv w2, rv u2] []) _
    refine XS.goto X16.here hx rfl (pc0 := 48) (pc' := 65) rfl (hb hby d5_48) (by decide) (by decide) ?_
    show SF p e below T16 (mkF m 65 #[rv u1, rv w2, rv u2] []) _
    refine XS.aloadN X16.here hx rfl (hb hby d5_65) rfl rfl ?_
    show SF p e below T16 (mkF m 66 #[rv u1, rv w2, rv u2] [(.ref u1)]) _
    refine XS.dup X16.here hx rfl (hb hby d5_66) rfl rfl ?_
    show SF p e below T16 (mkF m 67 #[rv u1, rv w2, rv u2] [(.ref u1), (.ref u1)]) _
    refine st19 _ ?_
    show SF p e below T19 (mkF m 70 #[rv u1, rv w2, rv u2] [(.int 1), (.ref u1)]) _
    refine XS.iconst X19.here hx rfl (hb hby d5_70) ?_
    show SF p e below T19 (mkF m 71 #[rv u1, rv w2, rv u2] [(.int 1), (.int 1), (.ref u1)]) _
    refine XS.iadd X19.here hx rfl (hb hby d5_71) rfl ?_
    show SF p e below T19 (mkF m 72 #[rv u1, rv w2, rv u2] [(.int ((1 : Int32) + (1 : Int32))), (.ref u1)]) _
    rw [show ((1 : Int32) + (1 : Int32)) = (2 : Int32) from by decide]
    show SF p e below T19 (mkF m 72 #[rv u1, rv w2, rv u2] [(.int 2), (.ref u1)]) _
    refine st24 _ ?_
    show SF p e below T24 (mkF m 75 #[rv u1, rv w2, rv u2] []) _
    exact X24.returnOut hx Bd.returns (hb hby d5_75) hr
  · show Q5_45 Z u1 w2 u2 u3 u4 u5 h0 n0 _ T24.heap _
    rw [e24]
    exact ⟨e1x, bx_i7, rfl, N24, K24, Fw24, F3_25, F3_26, F3_27, F3_28, F3_30⟩
-- ListValueIsEmptyPinLaw.step 
def Q4_46 (Z : State) (u1 : Addr) (u2 : Int32) (u3 : Addr) (w2 : Addr) (u4 : Addr) (u5 : ClassId) (u6 : Int32) (h0 : Heap) (n0 : Nat) (v : Option Value) (h : Heap) (L : List Loc) : Prop := ∃ e1x : Int32, (¬ e1x < (0 : Int32) ∧ e1x < (8 : Int32)) ∧ v = some (.int 2) ∧ Fr n0 L ∧ Keep h0 h [u1, u4] ∧ Exa Z h u1 "com/example/afterlog/afterlog/ListValue" ∧ Fld Z h u1 "com/example/afterlog/afterlog/ListValue" "size" "I" (.int 2) ∧ Fld Z h u1 "com/example/afterlog/afterlog/ListValue" "elements" "[[B" (.ref u4) ∧ Fld Z h u1 "com/example/afterlog/afterlog/ListValue" "head" "I" (.int e1x) ∧ Exa Z h u4 "[[B" ∧ Ary Z h u4 u5 (.array .byte) (8 : Int32)
set_option maxRecDepth 65536 in
set_option maxHeartbeats 40000000 in
theorem rm4_46 (l : Launch) (Z : State) (a0 : Array Value) (hw : HW Z a0) (ws : List Jvm.Cond) (u1 : Addr) (u2 : Int32) (u3 : Addr) (w2 : Addr) (u4 : Addr) (u5 : ClassId) (u6 : Int32) (h0 : Heap) (n0 : Nat) (Z0 : n0 ≤ h0.size) (P1 : ¬ ((u2 &&& (2 : Int32)) = (0 : Int32))) (Sg2 : Sta Z Z.heap "com/example/afterlog/afterlog/ListValue$End" "HEAD" "Lcom/example/afterlog/afterlog/ListValue$End;" (.ref w2)) (P3 : Old Z n0 h0) (P4 : (u2 &&& (1 : Int32)) = (0 : Int32)) (P5 : Exa Z h0 u1 "com/example/afterlog/afterlog/ListValue") (P6 : Fld Z h0 u1 "com/example/afterlog/afterlog/ListValue" "size" "I" (.int 1)) (P7 : Fld Z h0 u1 "com/example/afterlog/afterlog/ListValue" "elements" "[[B" (.ref u4)) (P8 : Ary Z h0 u4 u5 (.array .byte) (8 : Int32)) (P9 : Fld Z h0 u1 "com/example/afterlog/afterlog/ListValue" "head" "I" (.int u6)) (P10 : ¬ u6 < (0 : Int32) ∧ u6 < (8 : Int32)) (P11 : n0 ≤ u1) (P12 : Exa Z h0 u4 "[[B") (P13 : u4 ≠ u1) (P14 : OvrA Z u5 .byte "[B") (P15 : Exa Z h0 u3 "[B") (P16 : n0 ≤ u4) :
    MF l Z (⟨"com/example/afterlog/afterlog/ListValueIsEmptyPinLaw", "step", "(Lcom/example/afterlog/afterlog/ListValue;II[B)I"⟩ : MethodName) (Jvm.Cond.code (⟨"com/example/afterlog/afterlog/ListValueIsEmptyPinLaw", "step", "(Lcom/example/afterlog/afterlog/ListValue;II[B)I"⟩ : MethodName) method_3_code 5 (some .int)) ws ({ frames := 2, cells := 0, slots := 0, locals := 29 } : Room) #[(.ref u1), (.int 1), (.int u2), (.ref u3)] h0 (Q4_46 Z u1 u2 u3 w2 u4 u5 u6 h0 n0) := by
  refine MetFree.of_bodySF (plainFor_of_name pn_1) hisR ?_
  intro p e s m args below meth c s₁ Bd hml0 hP hK
  obtain ⟨rfl, hZ, hh⟩ := hP
  have hx := Bd.exec
  have hby := Bd.bytes
  have hml : c.maxLocals = 5 := hml0
  have hown : s.vm.findClass "com/example/afterlog/afterlog/ListValueIsEmptyPinLaw" = some m.cls := findClass_of_methodNamed Bd.named
  have hnm := (name_of_methodNamed Bd.named Bd.method).1
  have X0 : Stand p l e ({ frames := 2, cells := 0, slots := 0, locals := 29 } : Room) s m #[(.ref u1), (.int 1), (.int u2), (.ref u3)] below meth c s₁ [] 0 0 := Stand.of_body Bd
  have e0 : s₁.heap = h0 := by rw [← hh, Bd.state]; rfl
  have N0 := Fr.nil n0
  have pre0 : ∀ t, SF p e below s₁ (mkF m 0 #[rv u1, iv 1, iv u2, rv u3, .unset] []) t → SF p e below s₁ (entryFrame m #[(.ref u1), (.int 1), (.int u2), (.ref u3)] 5) t := fun t k => castTop (ef_4 m u1 (1 : Int32) u2 u3) k
  obtain ⟨T1, X1, e1, st1⟩ := getS2 X0 hx hZ hown (host := "") (Or.inl (tw hw 42 rfl)) Via.refl e0 (Sg2.ext P3.2) (g := (mkF m 6 #[rv u1, iv 1, iv u2, rv u3, .unset] [])) rfl (hb hby d4_6)
  obtain ⟨cq2, kq2, q2a, q2b, q2c⟩ := isOf hZ e1 P5
  obtain ⟨_, _, ⟨T2, L2, k2x, n2⟩, -, X2, ⟨Lc2, hQ2, l2, y2, z2⟩, st2⟩ := X1.virtualBack hx (y := (⟨"com/example/afterlog/afterlog/ListValue", "push", "(Lcom/example/afterlog/afterlog/ListValue$End;[B)V"⟩ : MethodName)) (z := (⟨"com/example/afterlog/afterlog/ListValue", "push", "(Lcom/example/afterlog/afterlog/ListValue$End;[B)V"⟩ : MethodName)) hown (mvT hZ (tw hw 28 rfl)) (mvT hZ (tw hw 29 rfl)) (notFace_of_selects (args := #[]) (mvT hZ (tw hw 31 rfl))) (mvT hZ (tw hw 31 rfl)) (mvT hZ (tw hw 30 rfl)) (by decide) (backOf (W := 0) (rm5_45 l Z a0 hw [] u1 w2 u3 u4 u5 u6 h0 n0 Z0 P6 P7 P8 Sg2 P3 P5 P9 P10 P11 P12 P13 P14 P15 P16) hZ (tw hw 32 rfl) (tw hw 3 rfl) (by decide) (by decide)) q2a q2c (g := (mkF m 42 #[rv u1, iv 1, iv u2, rv u3, rv w2] [(.ref u3), (.ref w2), (.ref u1)])) rfl (by rw [hml]; rfl) (Steps.refl _) (argsL := [(.ref w2), (.ref u3)]) (rest := []) (lenOf pd_3 rfl) rfl (by show 2 * 0 + _ ≤ _; exact Nat.le_of_eq rfl) (hb hby d4_42) (fun _ _ => ⟨rfl, e1, (by decide : 0 + 0 ≤ _), (by decide : 0 + 0 ≤ _)⟩)
  dsimp only [Pt.U, Pt.locs, Pt.cells, Pt.slots] at X2 l2 y2 z2 st2 hQ2
  subst l2 y2 z2
  obtain ⟨e1x, bx_i8, rfl, N2q, K2c, Fq2_0, Fq2_1, Fq2_2, Fq2_3, Fq2_4, Fq2_5⟩ := hQ2
  have K2 : Keep h0 T2.heap [u1, u4] := (Keep.refl h0 [u1, u4]).trans K2c (allS (Or.inl (List.mem_of_getElem? (i := 0) rfl)) (allS (Or.inl (List.mem_of_getElem? (i := 1) rfl)) all0))
  have N2 := Fr.app N0 N2q
  obtain ⟨fs, hr, hrun, hended, hW, hsame⟩ := X2.leave (v := some (.int 2)) (fun h => by rw [Bd.returns] at h; cases h)
  refine ⟨_, _, pre0 _ ?_, hrun, hended, _, _, rfl, ?_, ⟨_, rfl⟩, hW, hsame.mono (by decide) (by decide)⟩
  · show SF p e below s₁ (mkF m 0 #[rv u1, iv 1, iv u2, rv u3, .unset] []) _
    refine XS.iloadN X0.here hx rfl (hb hby d4_0) rfl ?_
    show SF p e below s₁ (mkF m 1 #[rv u1, iv 1, iv u2, rv u3, .unset] [(.int u2)]) _
    refine XS.iconst X0.here hx rfl (hb hby d4_1) ?_
    show SF p e below s₁ (mkF m 2 #[rv u1, iv 1, iv u2, rv u3, .unset] [(.int 2), (.int u2)]) _
    refine XS.iand X0.here hx rfl (hb hby d4_2) rfl ?_
    show SF p e below s₁ (mkF m 3 #[rv u1, iv 1, iv u2, rv u3, .unset] [(.int (u2 &&& (2 : Int32)))]) _
    refine XS.ifNo X0.here hx rfl (hb hby d4_3) rfl ((if0 _ _).trans (feq P1).1) ?_
    show SF p e below s₁ (mkF m 6 #[rv u1, iv 1, iv u2, rv u3, .unset] []) _
    refine st1 _ ?_
    show SF p e below T1 (mkF m 9 #[rv u1, iv 1, iv u2, rv u3, .unset] [(.ref w2)]) _
    refine XS.goto X1.here hx rfl (pc0 := 9) (pc' := 15) rfl (hb hby d4_9) (by decide) (by decide) ?_
    show SF p e below T1 (mkF m 15 #[rv u1, iv 1, iv u2, rv u3, .unset] [(.ref w2)]) _
    refine XS.astore X1.here hx rfl (hb hby d4_15) rfl rfl (l' := #[rv u1, iv 1, iv u2, rv u3, rv w2]) rfl ?_
    show SF p e below T1 (mkF m 17 #[rv u1, iv 1, iv u2, rv u3, rv w2] []) _
    refine XS.iloadN X1.here hx rfl (hb hby d4_17) rfl ?_
    show SF p e below T1 (mkF m 18 #[rv u1, iv 1, iv u2, rv u3, rv w2] [(.int u2)]) _
    refine XS.iconst X1.here hx rfl (hb hby d4_18) ?_
    show SF p e below T1 (mkF m 19 #[rv u1, iv 1, iv u2, rv u3, rv w2] [(.int 1), (.int u2)]) _
    refine XS.iand X1.here hx rfl (hb hby d4_19) rfl ?_
    show SF p e below T1 (mkF m 20 #[rv u1, iv 1, iv u2, rv u3, rv w2] [(.int (u2 &&& (1 : Int32)))]) _
    refine XS.ifYes X1.here hx rfl (pc0 := 20) (pc' := 38) rfl (hb hby d4_20) rfl ((if0 _ _).trans (teq P4).1) (by decide) (by decide) ?_
    show SF p e below T1 (mkF m 38 #[rv u1, iv 1, iv u2, rv u3, rv w2] []) _
    refine XS.aloadN X1.here hx rfl (hb hby d4_38) rfl rfl ?_
    show SF p e below T1 (mkF m 39 #[rv u1, iv 1, iv u2, rv u3, rv w2] [(.ref u1)]) _
    refine XS.aload X1.here hx rfl (hb hby d4_39) rfl rfl ?_
    show SF p e below T1 (mkF m 41 #[rv u1, iv 1, iv u2, rv u3, rv w2] [(.ref w2), (.ref u1)]) _
    refine XS.aloadN X1.here hx rfl (hb hby d4_41) rfl rfl ?_
    show SF p e below T1 (mkF m 42 #[rv u1, iv 1, iv u2, rv u3, rv w2] [(.ref u3), (.ref w2), (.ref u1)]) _
    refine st2.trans ?_
    show SF p e below T2 (mkF m 45 #[rv u1, iv 1, iv u2, rv u3, rv w2] []) _
    refine XS.iloadN X2.here hx rfl (hb hby d4_45) rfl ?_
    show SF p e below T2 (mkF m 46 #[rv u1, iv 1, iv u2, rv u3, rv w2] [(.int 1)]) _
    refine XS.iconst X2.here hx rfl (hb hby d4_46) ?_
    show SF p e below T2 (mkF m 47 #[rv u1, iv 1, iv u2, rv u3, rv w2] [(.int 1), (.int 1)]) _
    refine XS.iadd X2.here hx rfl (hb hby d4_47) rfl ?_
    show SF p e below T2 (mkF m 48 #[rv u1, iv 1, iv u2, rv u3, rv w2] [(.int ((1 : Int32) + (1 : Int32)))]) _
    rw [show ((1 : Int32) + (1 : Int32)) = (2 : Int32) from by decide]
    show SF p e below T2 (mkF m 48 #[rv u1, iv 1, iv u2, rv u3, rv w2] [(.int 2)]) _
    exact retI X2 hx Bd.returns (hb hby d4_48) hr
  · show Q4_46 Z u1 u2 u3 w2 u4 u5 u6 h0 n0 _ T2.heap _
    exact ⟨e1x, bx_i8, rfl, N2, K2, Fq2_2, Fq2_0, Fq2_1, Fq2_3, Fq2_5, Fq2_4⟩
-- ListValue.pop 
def Q7_47 (Z : State) (u1 : Addr) (w2 : Addr) (u2 : Int32) (u3 : Addr) (u4 : ClassId) (h0 : Heap) (n0 : Nat) (v : Option Value) (h : Heap) (L : List Loc) : Prop := ∃ e1x : Value, ∃ e2x : Int32, (e1x.isRef = true) ∧ (¬ e2x < (0 : Int32) ∧ e2x < (8 : Int32)) ∧ v = some e1x ∧ Fr n0 L ∧ Keep h0 h [u3, u1] ∧ Ary Z h u3 u4 (.array .byte) (8 : Int32) ∧ Exa Z h u3 "[[B" ∧ Fld Z h u1 "com/example/afterlog/afterlog/ListValue" "head" "I" (.int e2x) ∧ Fld Z h u1 "com/example/afterlog/afterlog/ListValue" "elements" "[[B" (.ref u3) ∧ Exa Z h u1 "com/example/afterlog/afterlog/ListValue" ∧ Fld Z h u1 "com/example/afterlog/afterlog/ListValue" "size" "I" (.int 0)
set_option maxRecDepth 65536 in
set_option maxHeartbeats 40000000 in
theorem rm7_47 (l : Launch) (Z : State) (a0 : Array Value) (hw : HW Z a0) (ws : List Jvm.Cond) (u1 : Addr) (w2 : Addr) (u2 : Int32) (u3 : Addr) (u4 : ClassId) (h0 : Heap) (n0 : Nat) (Z0 : n0 ≤ h0.size) (Sg2 : Sta Z Z.heap "com/example/afterlog/afterlog/ListValue$End" "HEAD" "Lcom/example/afterlog/afterlog/ListValue$End;" (.ref w2)) (P2 : Old Z n0 h0) (P3 : Fld Z h0 u1 "com/example/afterlog/afterlog/ListValue" "head" "I" (.int u2)) (P4 : Fld Z h0 u1 "com/example/afterlog/afterlog/ListValue" "elements" "[[B" (.ref u3)) (P5 : Ary Z h0 u3 u4 (.array .byte) (8 : Int32)) (P6 : ¬ u2 < (0 : Int32) ∧ u2 < (8 : Int32)) (P7 : Exa Z h0 u3 "[[B") (P8 : n0 ≤ u3) (P9 : Exa Z h0 u1 "com/example/afterlog/afterlog/ListValue") (P10 : u1 ≠ u3) (P11 : Fld Z h0 u1 "com/example/afterlog/afterlog/ListValue" "size" "I" (.int 1)) (P12 : n0 ≤ u1) :
    MF l Z (⟨"com/example/afterlog/afterlog/ListValue", "pop", "(Lcom/example/afterlog/afterlog/ListValue$End;)[B"⟩ : MethodName) (Jvm.Cond.code (⟨"com/example/afterlog/afterlog/ListValue", "pop", "(Lcom/example/afterlog/afterlog/ListValue$End;)[B"⟩ : MethodName) prog_24_method_7_code 4 (some (.array .byte))) ws ({ frames := 1, cells := 0, slots := 0, locals := 15 } : Room) #[(.ref u1), (.ref w2)] h0 (Q7_47 Z u1 w2 u2 u3 u4 h0 n0) := by
  refine MetFree.of_bodySF (plainFor_of_name pn_0) hisR ?_
  intro p e s m args below meth c s₁ Bd hml0 hP hK
  obtain ⟨rfl, hZ, hh⟩ := hP
  have hx := Bd.exec
  have hby := Bd.bytes
  have hml : c.maxLocals = 4 := hml0
  have hown : s.vm.findClass "com/example/afterlog/afterlog/ListValue" = some m.cls := findClass_of_methodNamed Bd.named
  have hnm := (name_of_methodNamed Bd.named Bd.method).1
  have X0 : Stand p l e ({ frames := 1, cells := 0, slots := 0, locals := 15 } : Room) s m #[(.ref u1), (.ref w2)] below meth c s₁ [] 0 0 := Stand.of_body Bd
  have e0 : s₁.heap = h0 := by rw [← hh, Bd.state]; rfl
  have N0 := Fr.nil n0
  have pre0 : ∀ t, SF p e below s₁ (mkF m 0 #[rv u1, rv w2, .unset, .unset] []) t → SF p e below s₁ (entryFrame m #[(.ref u1), (.ref w2)] 4) t := fun t k => castTop (ef_5 m u1 w2) k
  obtain ⟨T1, X1, e1, st1⟩ := getS2 X0 hx hZ hown (host := "") (Or.inl (tw hw 33 rfl)) Via.refl e0 (Sg2.ext P2.2) (g := (mkF m 1 #[rv u1, rv w2, .unset, .unset] [(.ref w2)])) rfl (hb hby d7_1)
  obtain ⟨T2, X2, e2, st2⟩ := getF X1 hx hZ hown (host := "") (Or.inl (tw hw 39 rfl)) Via.refl e1 P3 (g := (mkF m 8 #[rv u1, rv w2, .unset, .unset] [(.ref u1)])) rfl rfl (hb hby d7_8)
  obtain ⟨T3, X3, e3, st3⟩ := getF X2 hx hZ hown (host := "") (Or.inl (tw hw 12 rfl)) Via.refl e2 P4 (g := (mkF m 26 #[rv u1, rv w2, iv u2, .unset] [(.ref u1)])) rfl rfl (hb hby d7_26)
  obtain ⟨cl4, Ar4, q4, S4, N4z, H4⟩ := id P5
  have hin4 : ¬ (u2 < 0 ∨ cl4.slots.size ≤ (u2).toNatClampNeg) := inb_of S4 ⟨(P6).1, (P6).2⟩
  obtain ⟨e1x, hat4, rv4⟩ := H4 (u2).toNatClampNeg (Nat.lt_of_not_le fun y => hin4 (Or.inr y))
  obtain ⟨T5, X5, e5, st5⟩ := getF X3 hx hZ hown (host := "") (Or.inl (tw hw 12 rfl)) Via.refl e3 P4 (g := (mkF m 33 #[rv u1, rv w2, iv u2, .val e1x] [(.ref u1)])) rfl rfl (hb hby d7_33)
  obtain ⟨cl6, Ar6, q6, S6, N6z, H6⟩ := id P5
  have hin6 : ¬ (u2 < 0 ∨ cl6.slots.size ≤ (u2).toNatClampNeg) := inb_of S6 ⟨(P6).1, (P6).2⟩
  obtain ⟨T7, h7, X7, e7, W7, st7⟩ := stR X5 hx hZ e5 Ar6 (j := u2) hin6 rfl (Or.inl rfl) (g := (mkF m 38 #[rv u1, rv w2, iv u2, .val e1x] [.null, (.int u2), (.ref u3)])) rfl rfl (hb hby d7_38)
  have K7 : Keep h0 h7 [u3, u1] := (Keep.refl h0 [u3, u1]).wr W7 (Or.inl (List.mem_of_getElem? (i := 0) rfl))
  have N7 := Fr.snoc X7 N0 P8
  have V7 : Ary Z h7 u3 u4 (.array .byte) (8 : Int32) := Ary.set Ar6 q6 S6 N6z H6 rfl W7
  have O7 : Old Z n0 h7 := P2.wr W7 P8
  obtain ⟨T8, X8, e8, st8⟩ := getS2 X7 hx hZ hown (host := "") (Or.inl (tw hw 33 rfl)) Via.refl e7 (Sg2.ext O7.2) (g := (mkF m 40 #[rv u1, rv w2, iv u2, .val e1x] [(.ref w2)])) rfl (hb hby d7_40)
  have F1_9 : Exa Z h7 u1 "com/example/afterlog/afterlog/ListValue" := P9.wr W7
  have F1_10 : Fld Z h7 u1 "com/example/afterlog/afterlog/ListValue" "elements" "[[B" (.ref u3) := P4.other W7 (Or.inl P10)
  have F1_11 : Fld Z h7 u1 "com/example/afterlog/afterlog/ListValue" "head" "I" (.int u2) := P3.other W7 (Or.inl P10)
  have Z7 : n0 ≤ h7.size := Nat.le_trans Z0 (Keep.of_wr W7).1
  obtain ⟨cq12, q12, q12'⟩ := F1_9.cell
  obtain ⟨_, _, ⟨T12, L12, k12x, n12⟩, -, X12, ⟨Lc12, hQ12, l12, y12, z12⟩, st12⟩ := X8.privateBack hx (y := (⟨"com/example/afterlog/afterlog/ListValue", "slot", "(I)I"⟩ : MethodName)) hown (mvT hZ (tw hw 35 rfl)) (mvT hZ (tw hw 36 rfl)) (own_selP hZ (tw hw 2 rfl) (tw hw 37 rfl) (tw hw 36 rfl) (by decide)) (Cond.privateMethod_at (mvP hZ (tw hw 37 rfl) (args := #[]))) (mvT hZ (tw hw 38 rfl)) (by decide) (backOf (W := 1) (own_slot l Z a0 hw [] u1 u3 u4 u2 (1 : Int32) h7 n0 Z7 F1_10 F1_11 V7 P6 ⟨by decide, by decide⟩) hZ (tw hw 38 rfl) (tw hw 3 rfl) (by decide) (by decide)) (g := (mkF m 49 #[rv u1, rv w2, iv u2, .val e1x] [(.int 1), (.ref u1), (.ref u1)])) rfl (by rw [hml]; rfl) (Steps.refl _) (a := u1) (by rw [e8]; exact q12) q12' (argsL := [(.int 1)]) (rest := [(.ref u1)]) (lenOf pd_2 rfl) rfl (by show 2 * 0 + _ ≤ _; exact Nat.le_of_eq rfl) (hb hby d7_49) (fun _ _ => ⟨rfl, e8, (by decide : 0 + 0 ≤ _), (by decide : 0 + 0 ≤ _)⟩)
  dsimp only [Pt.U, Pt.locs, Pt.cells, Pt.slots] at X12 l12 y12 z12 st12 hQ12
  subst l12 y12 z12
  obtain ⟨e2x, bx_i8, rfl, N12q, e12⟩ := hQ12
  have N12 := Fr.app N7 N12q
  have F1_13 : Fld Z h7 u1 "com/example/afterlog/afterlog/ListValue" "size" "I" (.int 1) := P11.other W7 (Or.inl P10)
  obtain ⟨T14, h14, X14, e14, W14, st14⟩ := putF X12 hx hZ hown (host := "") (Or.inl (tw hw 39 rfl)) Via.refl e12 F1_11 F1_9 (Or.inl (tw hw 40 rfl)) (tw hw 2 rfl) (ty := .int) (by decide) rfl rfl (g := (mkF m 52 #[rv u1, rv w2, iv u2, .val e1x] [(.int e2x), (.ref u1)])) rfl rfl (hb hby d7_52)
  have K14 : Keep h0 h14 [u3, u1] := K7.wr W14 (Or.inl (List.mem_of_getElem? (i := 1) rfl))
  have N14 := Fr.snoc X14 N12 P12
  have Fw14 : Fld Z h14 u1 "com/example/afterlog/afterlog/ListValue" "head" "I" (.int e2x) := F1_11.same W14
  have F2_15 : Fld Z h14 u1 "com/example/afterlog/afterlog/ListValue" "size" "I" (.int 1) := F1_13.other W14 (Or.inr (slot_ne (Or.inl (tw hw 20 rfl)) (Or.inl (tw hw 40 rfl)) (by decide) (t := .int) (t' := .int) (by decide) (by decide)))
  obtain ⟨T16, X16, e16, st16⟩ := getF X14 hx hZ hown (host := "") (Or.inl (tw hw 19 rfl)) Via.refl e14 F2_15 (g := (mkF m 57 #[rv u1, rv w2, iv u2, .val e1x] [(.ref u1), (.ref u1)])) rfl rfl (hb hby d7_57)
  have F2_17 : Exa Z h14 u1 "com/example/afterlog/afterlog/ListValue" := F1_9.wr W14
  have F2_18 : Fld Z h14 u1 "com/example/afterlog/afterlog/ListValue" "elements" "[[B" (.ref u3) := F1_10.other W14 (Or.inr (slot_ne (Or.inl (tw hw 13 rfl)) (Or.inl (tw hw 40 rfl)) (by decide) (t := (.array (.array .byte))) (t' := .int) (by decide) (by decide)))
  obtain ⟨T19, h19, X19, e19, W19, st19⟩ := putF X16 hx hZ hown (host := "") (Or.inl (tw hw 19 rfl)) Via.refl e16 F2_15 F2_17 (Or.inl (tw hw 20 rfl)) (tw hw 2 rfl) (ty := .int) (by decide) rfl rfl (g := (mkF m 62 #[rv u1, rv w2, iv u2, .val e1x] [(.int 0), (.ref u1)])) rfl rfl (hb hby d7_62)
  have K19 : Keep h0 h19 [u3, u1] := K14.wr W19 (Or.inl (List.mem_of_getElem? (i := 1) rfl))
  have N19 := Fr.snoc X19 N14 P12
  have Fw19 : Fld Z h19 u1 "com/example/afterlog/afterlog/ListValue" "size" "I" (.int 0) := F2_15.same W19
  have F2_20 : Ary Z h14 u3 u4 (.array .byte) (8 : Int32) := V7.other W14 (Ne.symm P10)
  have F3_21 : Ary Z h19 u3 u4 (.array .byte) (8 : Int32) := F2_20.other W19 (Ne.symm P10)
  have F1_22 : Exa Z h7 u3 "[[B" := P7.wr W7
  have F2_23 : Exa Z h14 u3 "[[B" := F1_22.wr W14
  have F3_24 : Exa Z h19 u3 "[[B" := F2_23.wr W19
  have F3_25 : Fld Z h19 u1 "com/example/afterlog/afterlog/ListValue" "head" "I" (.int e2x) := Fw14.other W19 (Or.inr (slot_ne (Or.inl (tw hw 40 rfl)) (Or.inl (tw hw 20 rfl)) (by decide) (t := .int) (t' := .int) (by decide) (by decide)))
  have F3_26 : Fld Z h19 u1 "com/example/afterlog/afterlog/ListValue" "elements" "[[B" (.ref u3) := F2_18.other W19 (Or.inr (slot_ne (Or.inl (tw hw 13 rfl)) (Or.inl (tw hw 20 rfl)) (by decide) (t := (.array (.array .byte))) (t' := .int) (by decide) (by decide)))
  have F3_27 : Exa Z h19 u1 "com/example/afterlog/afterlog/ListValue" := F2_17.wr W19
  obtain ⟨fs, hr, hrun, hended, hW, hsame⟩ := X19.leave (v := some e1x) (fun h => by rw [Bd.returns] at h; cases h)
  refine ⟨_, _, pre0 _ ?_, hrun, hended, _, _, rfl, ?_, ⟨_, rfl⟩, hW, hsame.mono (by decide) (by decide)⟩
  · show SF p e below s₁ (mkF m 0 #[rv u1, rv w2, .unset, .unset] []) _
    refine XS.aloadN X0.here hx rfl (hb hby d7_0) rfl rfl ?_
    show SF p e below s₁ (mkF m 1 #[rv u1, rv w2, .unset, .unset] [(.ref w2)]) _
    refine st1 _ ?_
    show SF p e below T1 (mkF m 4 #[rv u1, rv w2, .unset, .unset] [(.ref w2), (.ref w2)]) _
    refine Jvm.RoadKit.acmp (g := (mkF m 4 #[rv u1, rv w2, .unset, .unset] [(.ref w2), (.ref w2)])) X1 hx rfl rfl rfl (pc0 := 4) (pc' := 7) (same := true) rfl (hb hby d7_4) rfl (decide_eq_true rfl) (by decide) (by decide) ?_
    show SF p e below T1 (mkF m 7 #[rv u1, rv w2, .unset, .unset] []) _
    refine XS.aloadN X1.here hx rfl (hb hby d7_7) rfl rfl ?_
    show SF p e below T1 (mkF m 8 #[rv u1, rv w2, .unset, .unset] [(.ref u1)]) _
    refine st2 _ ?_
    show SF p e below T2 (mkF m 11 #[rv u1, rv w2, .unset, .unset] [(.int u2)]) _
    refine XS.goto X2.here hx rfl (pc0 := 11) (pc' := 24) rfl (hb hby d7_11) (by decide) (by decide) ?_
    show SF p e below T2 (mkF m 24 #[rv u1, rv w2, .unset, .unset] [(.int u2)]) _
    refine XS.istoreN X2.here hx rfl (hb hby d7_24) rfl (l' := #[rv u1, rv w2, iv u2, .unset]) rfl ?_
    show SF p e below T2 (mkF m 25 #[rv u1, rv w2, iv u2, .unset] []) _
    refine XS.aloadN X2.here hx rfl (hb hby d7_25) rfl rfl ?_
    show SF p e below T2 (mkF m 26 #[rv u1, rv w2, iv u2, .unset] [(.ref u1)]) _
    refine st3 _ ?_
    show SF p e below T3 (mkF m 29 #[rv u1, rv w2, iv u2, .unset] [(.ref u3)]) _
    refine XS.iloadN X3.here hx rfl (hb hby d7_29) rfl ?_
    show SF p e below T3 (mkF m 30 #[rv u1, rv w2, iv u2, .unset] [(.int u2), (.ref u3)]) _
    refine X3.aaload hx (j := u2) (v := e1x) (by rw [e3]; exact Ar4.1) (State.isArrayOf_alike hZ.alike Ar4.2.1) rfl Ar4.2.2 hin4 hat4 (g := (mkF m 30 #[rv u1, rv w2, iv u2, .unset] [(.int u2), (.ref u3)])) rfl rfl (hb hby d7_30) _ ?_
    show SF p e below T3 (mkF m 31 #[rv u1, rv w2, iv u2, .unset] [e1x]) _
    refine XS.astoreN X3.here hx rfl (hb hby d7_31) rfl rv4 (l' := #[rv u1, rv w2, iv u2, .val e1x]) (by rcases ref_cases rv4 with h | ⟨_, h⟩ <;> subst h <;> rfl) ?_
    show SF p e below T3 (mkF m 32 #[rv u1, rv w2, iv u2, .val e1x] []) _
    refine XS.aloadN X3.here hx rfl (hb hby d7_32) rfl rfl ?_
    show SF p e below T3 (mkF m 33 #[rv u1, rv w2, iv u2, .val e1x] [(.ref u1)]) _
    refine st5 _ ?_
    show SF p e below T5 (mkF m 36 #[rv u1, rv w2, iv u2, .val e1x] [(.ref u3)]) _
    refine XS.iloadN X5.here hx rfl (hb hby d7_36) rfl ?_
    show SF p e below T5 (mkF m 37 #[rv u1, rv w2, iv u2, .val e1x] [(.int u2), (.ref u3)]) _
    refine XS.aconstNull X5.here hx rfl (hb hby d7_37) ?_
    show SF p e below T5 (mkF m 38 #[rv u1, rv w2, iv u2, .val e1x] [.null, (.int u2), (.ref u3)]) _
    refine st7 _ ?_
    show SF p e below T7 (mkF m 39 #[rv u1, rv w2, iv u2, .val e1x] []) _
    refine XS.aloadN X7.here hx rfl (hb hby d7_39) rfl rfl ?_
    show SF p e below T7 (mkF m 40 #[rv u1, rv w2, iv u2, .val e1x] [(.ref w2)]) _
    refine st8 _ ?_
    show SF p e below T8 (mkF m 43 #[rv u1, rv w2, iv u2, .val e1x] [(.ref w2), (.ref w2)]) _
    refine Jvm.RoadKit.acmp (g := (mkF m 43 #[rv u1, rv w2, iv u2, .val e1x] [(.ref w2), (.ref w2)])) X8 hx rfl rfl rfl (pc0 := 43) (pc' := 46) (same := true) rfl (hb hby d7_43) rfl (decide_eq_true rfl) (by decide) (by decide) ?_
    show SF p e below T8 (mkF m 46 #[rv u1, rv w2, iv u2, .val e1x] []) _
    refine XS.aloadN X8.here hx rfl (hb hby d7_46) rfl rfl ?_
    show SF p e below T8 (mkF m 47 #[rv u1, rv w2, iv u2, .val e1x] [(.ref u1)]) _
    refine XS.aloadN X8.here hx rfl (hb hby d7_47) rfl rfl ?_
    show SF p e below T8 (mkF m 48 #[rv u1, rv w2, iv u2, .val e1x] [(.ref u1), (.ref u1)]) _
    refine XS.iconst X8.here hx rfl (hb hby d7_48) ?_
    show SF p e below T8 (mkF m 49 #[rv u1, rv w2, iv u2, .val e1x] [(.int 1), (.ref u1), (.ref u1)]) _
    refine st12.trans ?_
    show SF p e below T12 (mkF m 52 #[rv u1, rv w2, iv u2, .val e1x] [(.int e2x), (.ref u1)]) _
    refine st14 _ ?_
    show SF p e below T14 (mkF m 55 #[rv u1, rv w2, iv u2, .val e1x] []) _
    refine XS.aloadN X14.here hx rfl (hb hby d7_55) rfl rfl ?_
    show SF p e below T14 (mkF m 56 #[rv u1, rv w2, iv u2, .val e1x] [(.ref u1)]) _
    refine XS.dup X14.here hx rfl (hb hby d7_56) rfl rfl ?_
    show SF p e below T14 (mkF m 57 #[rv u1, rv w2, iv u2, .val e1x] [(.ref u1), (.ref u1)]) _
    refine st16 _ ?_
    show SF p e below T16 (mkF m 60 #[rv u1, rv w2, iv u2, .val e1x] [(.int 1), (.ref u1)]) _
    refine XS.iconst X16.here hx rfl (hb hby d7_60) ?_
    show SF p e below T16 (mkF m 61 #[rv u1, rv w2, iv u2, .val e1x] [(.int 1), (.int 1), (.ref u1)]) _
    refine XS.isub X16.here hx rfl (hb hby d7_61) rfl ?_
    show SF p e below T16 (mkF m 62 #[rv u1, rv w2, iv u2, .val e1x] [(.int ((1 : Int32) - (1 : Int32))), (.ref u1)]) _
    rw [show ((1 : Int32) - (1 : Int32)) = (0 : Int32) from by decide]
    show SF p e below T16 (mkF m 62 #[rv u1, rv w2, iv u2, .val e1x] [(.int 0), (.ref u1)]) _
    refine st19 _ ?_
    show SF p e below T19 (mkF m 65 #[rv u1, rv w2, iv u2, .val e1x] []) _
    refine XS.aloadN X19.here hx rfl (hb hby d7_65) rfl rv4 ?_
    show SF p e below T19 (mkF m 66 #[rv u1, rv w2, iv u2, .val e1x] [e1x]) _
    exact own_retR X19 hx Bd.returns rfl rv4 (hb hby d7_66) hr
  · show Q7_47 Z u1 w2 u2 u3 u4 h0 n0 _ T19.heap _
    rw [e19]
    exact ⟨e1x, e2x, rv4, bx_i8, rfl, N19, K19, F3_21, F3_24, F3_25, F3_26, F3_27, Fw19⟩
-- ListValueIsEmptyPinLaw.step 
def Q4_48 (Z : State) (u1 : Addr) (u2 : Int32) (u3 : Addr) (w2 : Addr) (u4 : Int32) (u5 : Addr) (u6 : ClassId) (h0 : Heap) (n0 : Nat) (v : Option Value) (h : Heap) (L : List Loc) : Prop := ∃ e1x : Int32, (¬ e1x < (0 : Int32) ∧ e1x < (8 : Int32)) ∧ v = some (.int 0) ∧ Fr n0 L ∧ Keep h0 h [u5, u1] ∧ Exa Z h u5 "[[B" ∧ Ary Z h u5 u6 (.array .byte) (8 : Int32) ∧ Exa Z h u1 "com/example/afterlog/afterlog/ListValue" ∧ Fld Z h u1 "com/example/afterlog/afterlog/ListValue" "head" "I" (.int e1x) ∧ Fld Z h u1 "com/example/afterlog/afterlog/ListValue" "elements" "[[B" (.ref u5) ∧ Fld Z h u1 "com/example/afterlog/afterlog/ListValue" "size" "I" (.int 0)
set_option maxRecDepth 65536 in
set_option maxHeartbeats 40000000 in
theorem rm4_48 (l : Launch) (Z : State) (a0 : Array Value) (hw : HW Z a0) (ws : List Jvm.Cond) (u1 : Addr) (u2 : Int32) (u3 : Addr) (w2 : Addr) (u4 : Int32) (u5 : Addr) (u6 : ClassId) (h0 : Heap) (n0 : Nat) (Z0 : n0 ≤ h0.size) (P1 : ¬ ((u2 &&& (2 : Int32)) = (0 : Int32))) (Sg2 : Sta Z Z.heap "com/example/afterlog/afterlog/ListValue$End" "HEAD" "Lcom/example/afterlog/afterlog/ListValue$End;" (.ref w2)) (P3 : Old Z n0 h0) (P4 : ¬ ((u2 &&& (1 : Int32)) = (0 : Int32))) (P5 : Exa Z h0 u1 "com/example/afterlog/afterlog/ListValue") (P6 : Fld Z h0 u1 "com/example/afterlog/afterlog/ListValue" "head" "I" (.int u4)) (P7 : Fld Z h0 u1 "com/example/afterlog/afterlog/ListValue" "elements" "[[B" (.ref u5)) (P8 : Ary Z h0 u5 u6 (.array .byte) (8 : Int32)) (P9 : ¬ u4 < (0 : Int32) ∧ u4 < (8 : Int32)) (P10 : Exa Z h0 u5 "[[B") (P11 : n0 ≤ u5) (P12 : u1 ≠ u5) (P13 : Fld Z h0 u1 "com/example/afterlog/afterlog/ListValue" "size" "I" (.int 1)) (P14 : n0 ≤ u1) :
    MF l Z (⟨"com/example/afterlog/afterlog/ListValueIsEmptyPinLaw", "step", "(Lcom/example/afterlog/afterlog/ListValue;II[B)I"⟩ : MethodName) (Jvm.Cond.code (⟨"com/example/afterlog/afterlog/ListValueIsEmptyPinLaw", "step", "(Lcom/example/afterlog/afterlog/ListValue;II[B)I"⟩ : MethodName) method_3_code 5 (some .int)) ws ({ frames := 2, cells := 0, slots := 0, locals := 30 } : Room) #[(.ref u1), (.int 1), (.int u2), (.ref u3)] h0 (Q4_48 Z u1 u2 u3 w2 u4 u5 u6 h0 n0) := by
  refine MetFree.of_bodySF (plainFor_of_name pn_1) hisR ?_
  intro p e s m args below meth c s₁ Bd hml0 hP hK
  obtain ⟨rfl, hZ, hh⟩ := hP
  have hx := Bd.exec
  have hby := Bd.bytes
  have hml : c.maxLocals = 5 := hml0
  have hown : s.vm.findClass "com/example/afterlog/afterlog/ListValueIsEmptyPinLaw" = some m.cls := findClass_of_methodNamed Bd.named
  have hnm := (name_of_methodNamed Bd.named Bd.method).1
  have X0 : Stand p l e ({ frames := 2, cells := 0, slots := 0, locals := 30 } : Room) s m #[(.ref u1), (.int 1), (.int u2), (.ref u3)] below meth c s₁ [] 0 0 := Stand.of_body Bd
  have e0 : s₁.heap = h0 := by rw [← hh, Bd.state]; rfl
  have N0 := Fr.nil n0
  have pre0 : ∀ t, SF p e below s₁ (mkF m 0 #[rv u1, iv 1, iv u2, rv u3, .unset] []) t → SF p e below s₁ (entryFrame m #[(.ref u1), (.int 1), (.int u2), (.ref u3)] 5) t := fun t k => castTop (ef_4 m u1 (1 : Int32) u2 u3) k
  obtain ⟨T1, X1, e1, st1⟩ := getS2 X0 hx hZ hown (host := "") (Or.inl (tw hw 42 rfl)) Via.refl e0 (Sg2.ext P3.2) (g := (mkF m 6 #[rv u1, iv 1, iv u2, rv u3, .unset] [])) rfl (hb hby d4_6)
  obtain ⟨cq2, kq2, q2a, q2b, q2c⟩ := isOf hZ e1 P5
  obtain ⟨_, _, ⟨T2, L2, k2x, n2⟩, -, X2, ⟨Lc2, hQ2, l2, y2, z2⟩, st2⟩ := X1.virtualBack hx (y := (⟨"com/example/afterlog/afterlog/ListValue", "pop", "(Lcom/example/afterlog/afterlog/ListValue$End;)[B"⟩ : MethodName)) (z := (⟨"com/example/afterlog/afterlog/ListValue", "pop", "(Lcom/example/afterlog/afterlog/ListValue$End;)[B"⟩ : MethodName)) hown (mvT hZ (tw hw 43 rfl)) (mvT hZ (tw hw 44 rfl)) (notFace_of_selects (args := #[]) (mvT hZ (tw hw 46 rfl))) (mvT hZ (tw hw 46 rfl)) (mvT hZ (tw hw 45 rfl)) (by decide) (backOf (W := 0) (rm7_47 l Z a0 hw [] u1 w2 u4 u5 u6 h0 n0 Z0 Sg2 P3 P6 P7 P8 P9 P10 P11 P5 P12 P13 P14) hZ (tw hw 47 rfl) (tw hw 3 rfl) (by decide) (by decide)) q2a q2c (g := (mkF m 30 #[rv u1, iv 1, iv u2, rv u3, rv w2] [(.ref w2), (.ref u1)])) rfl (by rw [hml]; rfl) (Steps.refl _) (argsL := [(.ref w2)]) (rest := []) (lenOf pd_5 rfl) rfl (by show 2 * 0 + _ ≤ _; exact Nat.le_of_eq rfl) (hb hby d4_30) (fun _ _ => ⟨rfl, e1, (by decide : 0 + 0 ≤ _), (by decide : 0 + 0 ≤ _)⟩)
  dsimp only [Pt.U, Pt.locs, Pt.cells, Pt.slots] at X2 l2 y2 z2 st2 hQ2
  subst l2 y2 z2
  obtain ⟨w8x, e1x, bx_vx9, bx_i10, rfl, N2q, K2c, Fq2_0, Fq2_1, Fq2_2, Fq2_3, Fq2_4, Fq2_5⟩ := hQ2
  have K2 : Keep h0 T2.heap [u5, u1] := (Keep.refl h0 [u5, u1]).trans K2c (allS (Or.inl (List.mem_of_getElem? (i := 0) rfl)) (allS (Or.inl (List.mem_of_getElem? (i := 1) rfl)) all0))
  have N2 := Fr.app N0 N2q
  obtain ⟨fs, hr, hrun, hended, hW, hsame⟩ := X2.leave (v := some (.int 0)) (fun h => by rw [Bd.returns] at h; cases h)
  refine ⟨_, _, pre0 _ ?_, hrun, hended, _, _, rfl, ?_, ⟨_, rfl⟩, hW, hsame.mono (by decide) (by decide)⟩
  · show SF p e below s₁ (mkF m 0 #[rv u1, iv 1, iv u2, rv u3, .unset] []) _
    refine XS.iloadN X0.here hx rfl (hb hby d4_0) rfl ?_
    show SF p e below s₁ (mkF m 1 #[rv u1, iv 1, iv u2, rv u3, .unset] [(.int u2)]) _
    refine XS.iconst X0.here hx rfl (hb hby d4_1) ?_
    show SF p e below s₁ (mkF m 2 #[rv u1, iv 1, iv u2, rv u3, .unset] [(.int 2), (.int u2)]) _
    refine XS.iand X0.here hx rfl (hb hby d4_2) rfl ?_
    show SF p e below s₁ (mkF m 3 #[rv u1, iv 1, iv u2, rv u3, .unset] [(.int (u2 &&& (2 : Int32)))]) _
    refine XS.ifNo X0.here hx rfl (hb hby d4_3) rfl ((if0 _ _).trans (feq P1).1) ?_
    show SF p e below s₁ (mkF m 6 #[rv u1, iv 1, iv u2, rv u3, .unset] []) _
    refine st1 _ ?_
    show SF p e below T1 (mkF m 9 #[rv u1, iv 1, iv u2, rv u3, .unset] [(.ref w2)]) _
    refine XS.goto X1.here hx rfl (pc0 := 9) (pc' := 15) rfl (hb hby d4_9) (by decide) (by decide) ?_
    show SF p e below T1 (mkF m 15 #[rv u1, iv 1, iv u2, rv u3, .unset] [(.ref w2)]) _
    refine XS.astore X1.here hx rfl (hb hby d4_15) rfl rfl (l' := #[rv u1, iv 1, iv u2, rv u3, rv w2]) rfl ?_
    show SF p e below T1 (mkF m 17 #[rv u1, iv 1, iv u2, rv u3, rv w2] []) _
    refine XS.iloadN X1.here hx rfl (hb hby d4_17) rfl ?_
    show SF p e below T1 (mkF m 18 #[rv u1, iv 1, iv u2, rv u3, rv w2] [(.int u2)]) _
    refine XS.iconst X1.here hx rfl (hb hby d4_18) ?_
    show SF p e below T1 (mkF m 19 #[rv u1, iv 1, iv u2, rv u3, rv w2] [(.int 1), (.int u2)]) _
    refine XS.iand X1.here hx rfl (hb hby d4_19) rfl ?_
    show SF p e below T1 (mkF m 20 #[rv u1, iv 1, iv u2, rv u3, rv w2] [(.int (u2 &&& (1 : Int32)))]) _
    refine XS.ifNo X1.here hx rfl (hb hby d4_20) rfl ((if0 _ _).trans (feq P4).1) ?_
    show SF p e below T1 (mkF m 23 #[rv u1, iv 1, iv u2, rv u3, rv w2] []) _
    refine XS.iloadN X1.here hx rfl (hb hby d4_23) rfl ?_
    show SF p e below T1 (mkF m 24 #[rv u1, iv 1, iv u2, rv u3, rv w2] [(.int 1)]) _
    refine XS.ifNo X1.here hx rfl (hb hby d4_24) rfl ((if0 _ _).trans (tlt (by decide : (0 : Int32) < (1 : Int32))).2.2.2) ?_
    show SF p e below T1 (mkF m 27 #[rv u1, iv 1, iv u2, rv u3, rv w2] []) _
    refine XS.aloadN X1.here hx rfl (hb hby d4_27) rfl rfl ?_
    show SF p e below T1 (mkF m 28 #[rv u1, iv 1, iv u2, rv u3, rv w2] [(.ref u1)]) _
    refine XS.aload X1.here hx rfl (hb hby d4_28) rfl rfl ?_
    show SF p e below T1 (mkF m 30 #[rv u1, iv 1, iv u2, rv u3, rv w2] [(.ref w2), (.ref u1)]) _
    refine st2.trans ?_
    show SF p e below T2 (mkF m 33 #[rv u1, iv 1, iv u2, rv u3, rv w2] [w8x]) _
    refine XS.pop X2.here hx rfl (hb hby d4_33) rfl (by rcases ref_cases bx_vx9 with h | ⟨_, h⟩ <;> subst h <;> rfl) ?_
    show SF p e below T2 (mkF m 34 #[rv u1, iv 1, iv u2, rv u3, rv w2] []) _
    refine XS.iloadN X2.here hx rfl (hb hby d4_34) rfl ?_
    show SF p e below T2 (mkF m 35 #[rv u1, iv 1, iv u2, rv u3, rv w2] [(.int 1)]) _
    refine XS.iconst X2.here hx rfl (hb hby d4_35) ?_
    show SF p e below T2 (mkF m 36 #[rv u1, iv 1, iv u2, rv u3, rv w2] [(.int 1), (.int 1)]) _
    refine XS.isub X2.here hx rfl (hb hby d4_36) rfl ?_
    show SF p e below T2 (mkF m 37 #[rv u1, iv 1, iv u2, rv u3, rv w2] [(.int ((1 : Int32) - (1 : Int32)))]) _
    rw [show ((1 : Int32) - (1 : Int32)) = (0 : Int32) from by decide]
    show SF p e below T2 (mkF m 37 #[rv u1, iv 1, iv u2, rv u3, rv w2] [(.int 0)]) _
    exact retI X2 hx Bd.returns (hb hby d4_37) hr
  · show Q4_48 Z u1 u2 u3 w2 u4 u5 u6 h0 n0 _ T2.heap _
    exact ⟨e1x, bx_i10, rfl, N2, K2, Fq2_1, Fq2_0, Fq2_4, Fq2_2, Fq2_3, Fq2_5⟩
set_option maxRecDepth 65536 in
set_option maxHeartbeats 400000000 in
theorem pc_1 {p : Program} {l : Launch} {e : Env} {s : State} {m : MethodId} {below : List Frame} {meth : Method} {c : Code} {T0 : State} {locs : List Loc} {Z : State} {a0 : Array Value} {h0 : Heap} {n0 : Nat} {p0s : Int32} {p1s : Int32} {p2s : Int32} {p3s : Int32} {w1 : Addr} {w2 : Addr} {o1 : Addr} {o2 : Addr} {kk1 : ClassId} {o3 : Addr} {kk2 : ClassId} {ii1 : Int32} (X0 : Stand p l e room_1 s m #[(.int p0s), (.int p1s), (.int p2s), (.int p3s)] below meth c T0 locs 3 12) (hx : p.tables.exec = Jvm.exec) (hZ : Z.Warmed39 s.vm) (hw : HW Z a0) (hby : c.code = code) (hml : c.maxLocals = 8) (hown : s.vm.findClass "com/example/afterlog/afterlog/ListValueIsEmptyPinLaw" = some m.cls) (hre : meth.sig.returnType = some .boolean) (hlk : meth.locks = false) (e0 : T0.heap = h0) (N0 : Fr n0 locs) (Z0 : n0 ≤ h0.size) (O0 : Old Z n0 h0) (Sg0 : Sta Z Z.heap "com/example/afterlog/afterlog/ListValue$End" "TAIL" "Lcom/example/afterlog/afterlog/ListValue$End;" (.ref w1)) (E_w1 : Exa Z Z.heap w1 "com/example/afterlog/afterlog/ListValue$End") (Sg2 : Sta Z Z.heap "com/example/afterlog/afterlog/ListValue$End" "HEAD" "Lcom/example/afterlog/afterlog/ListValue$End;" (.ref w2)) (E_w2 : Exa Z Z.heap w2 "com/example/afterlog/afterlog/ListValue$End") (F_w1_ordinal : Fld Z Z.heap w1 "java/lang/Enum" "ordinal" "I" (.int 1)) (F_w2_ordinal : Fld Z Z.heap w2 "java/lang/Enum" "ordinal" "I" (.int 0)) (P1 : Arv Z h0 o1 kk1 .byte (1 : Int32) [(.int (nar .byte ((p0s &&& (127 : Int32)).toInt8.toInt32)))] (.int (0 : Int32))) (P2 : Exa Z h0 o1 "[B") (P3 : Exa Z h0 o2 "com/example/afterlog/afterlog/ListValue") (P4 : Fld Z h0 o2 "com/example/afterlog/afterlog/ListValue" "elements" "[[B" (.ref o3)) (P5 : Fld Z h0 o2 "com/example/afterlog/afterlog/ListValue" "head" "I" (.int ii1)) (P6 : Fld Z h0 o2 "com/example/afterlog/afterlog/ListValue" "size" "I" (.int 1)) (P7 : Ary Z h0 o3 kk2 (.array .byte) (8 : Int32)) (P8 : OvrA Z kk2 .byte "[B") (P9 : Exa Z h0 o3 "[[B") (P10 : ¬ ii1 < (0 : Int32) ∧ ii1 < (8 : Int32)) (P11 : n0 ≤ o1) (P12 : o1 < h0.size) (P13 : n0 ≤ o2) (P14 : o2 < h0.size) (P15 : n0 ≤ o3) (P16 : o3 < h0.size) (P17 : o1 ≠ o2) (P18 : o1 ≠ o3) (P19 : o2 ≠ o3) :
    Fine p e below s n0 (T0.setTop (mkF m 75 #[iv p0s, iv p1s, iv p2s, iv p3s, rv o1, rv o2, iv 1, iv 1] [])) := by
  have pre0 : ∀ t, SF p e below T0 (mkF m 82 #[iv p0s, iv p1s, iv p2s, iv p3s, rv o1, rv o2, iv 1, iv 1] [(.ref o1), (.int p1s), (.int 1), (.ref o2)]) t → SF p e below T0 (mkF m 75 #[iv p0s, iv p1s, iv p2s, iv p3s, rv o1, rv o2, iv 1, iv 1] []) t := fun t k => by
    show SF p e below T0 (mkF m 75 #[iv p0s, iv p1s, iv p2s, iv p3s, rv o1, rv o2, iv 1, iv 1] []) _
    refine XS.aload X0.here hx rfl (hb hby at_75) rfl rfl ?_
    show SF p e below T0 (mkF m 77 #[iv p0s, iv p1s, iv p2s, iv p3s, rv o1, rv o2, iv 1, iv 1] [(.ref o2)]) _
    refine XS.iload X0.here hx rfl (hb hby at_77) rfl ?_
    show SF p e below T0 (mkF m 79 #[iv p0s, iv p1s, iv p2s, iv p3s, rv o1, rv o2, iv 1, iv 1] [(.int 1), (.ref o2)]) _
    refine XS.iloadN X0.here hx rfl (hb hby at_79) rfl ?_
    show SF p e below T0 (mkF m 80 #[iv p0s, iv p1s, iv p2s, iv p3s, rv o1, rv o2, iv 1, iv 1] [(.int p1s), (.int 1), (.ref o2)]) _
    refine XS.aload X0.here hx rfl (hb hby at_80) rfl rfl ?_
    exact k
  by_cases hc1 : (p1s &&& (2 : Int32)) = (0 : Int32)
  · by_cases hc2 : (p1s &&& (1 : Int32)) = (0 : Int32)
    · obtain ⟨_, _, ⟨T1, L1, k1x, n1⟩, -, X1, ⟨Lc1, hQ1, l1, y1, z1⟩, st1⟩ := Jvm.LawKit.callS X0 hx (y := (⟨"com/example/afterlog/afterlog/ListValueIsEmptyPinLaw", "step", "(Lcom/example/afterlog/afterlog/ListValue;II[B)I"⟩ : MethodName)) hown (mvT hZ (tw hw 21 rfl)) (mvT hZ (tw hw 22 rfl)) (mvT hZ (tw hw 23 rfl)) (mvT hZ (tw hw 24 rfl)) (by decide) (backOf (W := 0) (rm4_9 l Z a0 hw [] o2 p1s o1 w1 o3 kk2 w2 ii1 h0 n0 Z0 hc1 Sg0 O0 hc2 P3 P6 P4 P7 Sg2 F_w1_ordinal F_w2_ordinal P5 P10 P9 P8 P2 P15 P19 P13) hZ (tw hw 24 rfl) (tw hw 23 rfl) (by decide) (by decide)) (g := (mkF m 82 #[iv p0s, iv p1s, iv p2s, iv p3s, rv o1, rv o2, iv 1, iv 1] [(.ref o1), (.int p1s), (.int 1), (.ref o2)])) rfl (by rw [hml]; rfl) (argsL := [(.ref o2), (.int 1), (.int p1s), (.ref o1)]) (rest := []) (lenOf pd_4 rfl) rfl (by show 2 * 0 + _ ≤ _; exact Nat.le_of_eq rfl) (hb hby at_82) (fun _ _ => ⟨rfl, e0, (by decide : 3 + 0 ≤ _), (by decide : 12 + 0 ≤ _)⟩)
      dsimp only [Pt.U, Pt.locs, Pt.cells, Pt.slots] at X1 l1 y1 z1 st1 hQ1
      subst l1 y1 z1
      obtain ⟨rfl, N1q, K1c, Fq1_0, Fq1_1, Fq1_2, Fq1_3, Fq1_4, Fq1_5⟩ := hQ1
      have N1 := Fr.app N0 N1q
      have Z1 : n0 ≤ T1.heap.size := Nat.le_trans Z0 K1c.1
      obtain ⟨cq2, kq2, q2a, q2b, q2c⟩ := isOf hZ rfl Fq1_2
      obtain ⟨_, _, ⟨T2, L2, k2x, n2⟩, -, X2, ⟨Lc2, hQ2, l2, y2, z2⟩, st2⟩ := X1.virtualBack hx (y := (⟨"com/example/afterlog/afterlog/ListValue", "isEmpty", "()Z"⟩ : MethodName)) (z := (⟨"com/example/afterlog/afterlog/ListValue", "isEmpty", "()Z"⟩ : MethodName)) hown (mvT hZ (tw hw 14 rfl)) (mvT hZ (tw hw 15 rfl)) (notFace_of_selects (args := #[]) (mvT hZ (tw hw 17 rfl))) (mvT hZ (tw hw 17 rfl)) (mvT hZ (tw hw 16 rfl)) (by decide) (backOf (W := 0) (rm3_10 l Z a0 hw [] o2 T1.heap n0 Z1 Fq1_3) hZ (tw hw 18 rfl) (tw hw 3 rfl) (by decide) (by decide)) q2a q2c (g := (mkF m 94 #[iv p0s, iv p1s, iv p2s, iv p3s, rv o1, rv o2, iv 1, iv 2] [(.ref o2)])) rfl (by rw [hml]; rfl) (Steps.refl _) (argsL := []) (rest := []) (lenOf pd_1 rfl) rfl (by show 2 * 0 + _ ≤ _; exact Nat.le_of_eq rfl) (hb hby at_94) (fun _ _ => ⟨rfl, rfl, (by decide : 3 + 0 ≤ _), (by decide : 12 + 0 ≤ _)⟩)
      dsimp only [Pt.U, Pt.locs, Pt.cells, Pt.slots] at X2 l2 y2 z2 st2 hQ2
      subst l2 y2 z2
      obtain ⟨rfl, N2q, e2⟩ := hQ2
      have N2 := Fr.app N1 N2q
      have F1_3 : Arv Z T1.heap o1 kk1 .byte (1 : Int32) [(.int (nar .byte ((p0s &&& (127 : Int32)).toInt8.toInt32)))] (.int (0 : Int32)) := P1.keep K1c (ninS P18 (ninS P17 nin0))
      have F1_4 : Exa Z T1.heap o1 "[B" := P2.keep K1c
      have lt_o1_1 : o1 < T1.heap.size := Nat.lt_of_lt_of_le P12 K1c.1
      have lt_o2_1 : o2 < T1.heap.size := Nat.lt_of_lt_of_le P14 K1c.1
      have lt_o3_1 : o3 < T1.heap.size := Nat.lt_of_lt_of_le P16 K1c.1
      have O1 : Old Z n0 T1.heap := O0.keep K1c (allS P15 (allS P13 all0))
      refine Fine.pre (fun t k => pre0 _ (?_)) (pc_2 (o1 := o1) (o2 := o2) (kk1 := kk1) (o3 := o3) (kk2 := kk2) (ii1 := ii1) X2 hx hZ hw hby hml hown hre hlk e2 N2 Z1 O1 Sg0 E_w1 Sg2 E_w2 F_w1_ordinal F_w2_ordinal F1_3 F1_4 Fq1_2 Fq1_4 Fq1_5 Fq1_3 Fq1_1 P8 Fq1_0 P10 P11 lt_o1_1 P13 lt_o2_1 P15 lt_o3_1 P17 P18 P19)
      show SF p e below T0 (mkF m 82 #[iv p0s, iv p1s, iv p2s, iv p3s, rv o1, rv o2, iv 1, iv 1] [(.ref o1), (.int p1s), (.int 1), (.ref o2)]) _
      refine st1 _ ?_
      show SF p e below T1 (mkF m 85 #[iv p0s, iv p1s, iv p2s, iv p3s, rv o1, rv o2, iv 1, iv 1] [(.int 2)]) _
      refine XS.istore X1.here hx rfl (hb hby at_85) rfl (l' := #[iv p0s, iv p1s, iv p2s, iv p3s, rv o1, rv o2, iv 1, iv 2]) rfl ?_
      show SF p e below T1 (mkF m 87 #[iv p0s, iv p1s, iv p2s, iv p3s, rv o1, rv o2, iv 1, iv 2] []) _
      refine XS.iload X1.here hx rfl (hb hby at_87) rfl ?_
      show SF p e below T1 (mkF m 89 #[iv p0s, iv p1s, iv p2s, iv p3s, rv o1, rv o2, iv 1, iv 2] [(.int 1)]) _
      refine XS.ifNo X1.here hx rfl (hb hby at_89) rfl ((if0 _ _).trans (feq (by decide : ¬ ((1 : Int32) = (0 : Int32)))).1) ?_
      show SF p e below T1 (mkF m 92 #[iv p0s, iv p1s, iv p2s, iv p3s, rv o1, rv o2, iv 1, iv 2] []) _
      refine XS.aload X1.here hx rfl (hb hby at_92) rfl rfl ?_
      show SF p e below T1 (mkF m 94 #[iv p0s, iv p1s, iv p2s, iv p3s, rv o1, rv o2, iv 1, iv 2] [(.ref o2)]) _
      refine st2.trans ?_
      show SF p e below T2 (mkF m 97 #[iv p0s, iv p1s, iv p2s, iv p3s, rv o1, rv o2, iv 1, iv 2] [(.int 0)]) _
      refine XS.iload X2.here hx rfl (hb hby at_97) rfl ?_
      show SF p e below T2 (mkF m 99 #[iv p0s, iv p1s, iv p2s, iv p3s, rv o1, rv o2, iv 1, iv 2] [(.int 2), (.int 0)]) _
      refine XS.ifYes X2.here hx rfl (pc0 := 99) (pc' := 106) rfl (hb hby at_99) rfl ((if0 _ _).trans (feq (by decide : ¬ ((2 : Int32) = (0 : Int32)))).2) (by decide) (by decide) ?_
      show SF p e below T2 (mkF m 106 #[iv p0s, iv p1s, iv p2s, iv p3s, rv o1, rv o2, iv 1, iv 2] [(.int 0)]) _
      refine XS.iconst X2.here hx rfl (hb hby at_106) ?_
      show SF p e below T2 (mkF m 107 #[iv p0s, iv p1s, iv p2s, iv p3s, rv o1, rv o2, iv 1, iv 2] [(.int 0), (.int 0)]) _
      refine XS.icmpNo X2.here hx rfl (hb hby at_107) rfl (teq (by decide : (0 : Int32) = (0 : Int32))).2 ?_
      show SF p e below T2 (mkF m 110 #[iv p0s, iv p1s, iv p2s, iv p3s, rv o1, rv o2, iv 1, iv 2] []) _
      refine XS.iconst X2.here hx rfl (hb hby at_110) ?_
      show SF p e below T2 (mkF m 111 #[iv p0s, iv p1s, iv p2s, iv p3s, rv o1, rv o2, iv 1, iv 2] [(.int 1)]) _
      refine XS.goto X2.here hx rfl (pc0 := 111) (pc' := 115) rfl (hb hby at_111) (by decide) (by decide) ?_
      show SF p e below T2 (mkF m 115 #[iv p0s, iv p1s, iv p2s, iv p3s, rv o1, rv o2, iv 1, iv 2] [(.int 1)]) _
      refine XS.istore X2.here hx rfl (hb hby at_115) rfl (l' := #[iv p0s, iv p1s, iv p2s, iv p3s, rv o1, rv o2, iv 1, iv 2]) rfl ?_
      exact k
    · obtain ⟨_, _, ⟨T1, L1, k1x, n1⟩, -, X1, ⟨Lc1, hQ1, l1, y1, z1⟩, st1⟩ := Jvm.LawKit.callS X0 hx (y := (⟨"com/example/afterlog/afterlog/ListValueIsEmptyPinLaw", "step", "(Lcom/example/afterlog/afterlog/ListValue;II[B)I"⟩ : MethodName)) hown (mvT hZ (tw hw 21 rfl)) (mvT hZ (tw hw 22 rfl)) (mvT hZ (tw hw 23 rfl)) (mvT hZ (tw hw 24 rfl)) (by decide) (backOf (W := 0) (rm4_38 l Z a0 hw [] o2 p1s o1 w1 w2 o3 ii1 kk2 h0 n0 Z0 hc1 Sg0 O0 hc2 P3 Sg2 F_w1_ordinal F_w2_ordinal P6 P4 P5 P7 P10 P9 P15 P19 P13) hZ (tw hw 24 rfl) (tw hw 23 rfl) (by decide) (by decide)) (g := (mkF m 82 #[iv p0s, iv p1s, iv p2s, iv p3s, rv o1, rv o2, iv 1, iv 1] [(.ref o1), (.int p1s), (.int 1), (.ref o2)])) rfl (by rw [hml]; rfl) (argsL := [(.ref o2), (.int 1), (.int p1s), (.ref o1)]) (rest := []) (lenOf pd_4 rfl) rfl (by show 2 * 0 + _ ≤ _; exact Nat.le_of_eq rfl) (hb hby at_82) (fun _ _ => ⟨rfl, e0, (by decide : 3 + 0 ≤ _), (by decide : 12 + 0 ≤ _)⟩)
      dsimp only [Pt.U, Pt.locs, Pt.cells, Pt.slots] at X1 l1 y1 z1 st1 hQ1
      subst l1 y1 z1
      obtain ⟨rfl, N1q, K1c, Fq1_0, Fq1_1, Fq1_2, Fq1_3, Fq1_4, Fq1_5⟩ := hQ1
      have N1 := Fr.app N0 N1q
      have Z1 : n0 ≤ T1.heap.size := Nat.le_trans Z0 K1c.1
      obtain ⟨cq2, kq2, q2a, q2b, q2c⟩ := isOf hZ rfl Fq1_2
      obtain ⟨_, _, ⟨T2, L2, k2x, n2⟩, -, X2, ⟨Lc2, hQ2, l2, y2, z2⟩, st2⟩ := X1.virtualBack hx (y := (⟨"com/example/afterlog/afterlog/ListValue", "isEmpty", "()Z"⟩ : MethodName)) (z := (⟨"com/example/afterlog/afterlog/ListValue", "isEmpty", "()Z"⟩ : MethodName)) hown (mvT hZ (tw hw 14 rfl)) (mvT hZ (tw hw 15 rfl)) (notFace_of_selects (args := #[]) (mvT hZ (tw hw 17 rfl))) (mvT hZ (tw hw 17 rfl)) (mvT hZ (tw hw 16 rfl)) (by decide) (backOf (W := 0) (rm3_2 l Z a0 hw [] o2 T1.heap n0 Z1 Fq1_3) hZ (tw hw 18 rfl) (tw hw 3 rfl) (by decide) (by decide)) q2a q2c (g := (mkF m 94 #[iv p0s, iv p1s, iv p2s, iv p3s, rv o1, rv o2, iv 1, iv 0] [(.ref o2)])) rfl (by rw [hml]; rfl) (Steps.refl _) (argsL := []) (rest := []) (lenOf pd_1 rfl) rfl (by show 2 * 0 + _ ≤ _; exact Nat.le_of_eq rfl) (hb hby at_94) (fun _ _ => ⟨rfl, rfl, (by decide : 3 + 0 ≤ _), (by decide : 12 + 0 ≤ _)⟩)
      dsimp only [Pt.U, Pt.locs, Pt.cells, Pt.slots] at X2 l2 y2 z2 st2 hQ2
      subst l2 y2 z2
      obtain ⟨rfl, N2q, e2⟩ := hQ2
      have N2 := Fr.app N1 N2q
      have F1_3 : Arv Z T1.heap o1 kk1 .byte (1 : Int32) [(.int (nar .byte ((p0s &&& (127 : Int32)).toInt8.toInt32)))] (.int (0 : Int32)) := P1.keep K1c (ninS P18 (ninS P17 nin0))
      have F1_4 : Exa Z T1.heap o1 "[B" := P2.keep K1c
      have lt_o1_1 : o1 < T1.heap.size := Nat.lt_of_lt_of_le P12 K1c.1
      have lt_o2_1 : o2 < T1.heap.size := Nat.lt_of_lt_of_le P14 K1c.1
      have lt_o3_1 : o3 < T1.heap.size := Nat.lt_of_lt_of_le P16 K1c.1
      have O1 : Old Z n0 T1.heap := O0.keep K1c (allS P15 (allS P13 all0))
      refine Fine.pre (fun t k => pre0 _ (?_)) (pc_5 (o1 := o1) (o2 := o2) (kk1 := kk1) (o3 := o3) (kk2 := kk2) (ii1 := ii1) X2 hx hZ hw hby hml hown hre hlk e2 N2 Z1 O1 Sg0 E_w1 Sg2 E_w2 F_w1_ordinal F_w2_ordinal F1_3 F1_4 Fq1_2 Fq1_4 Fq1_5 Fq1_3 Fq1_1 P8 Fq1_0 P10 P11 lt_o1_1 P13 lt_o2_1 P15 lt_o3_1 P17 P18 P19)
      show SF p e below T0 (mkF m 82 #[iv p0s, iv p1s, iv p2s, iv p3s, rv o1, rv o2, iv 1, iv 1] [(.ref o1), (.int p1s), (.int 1), (.ref o2)]) _
      refine st1 _ ?_
      show SF p e below T1 (mkF m 85 #[iv p0s, iv p1s, iv p2s, iv p3s, rv o1, rv o2, iv 1, iv 1] [(.int 0)]) _
      refine XS.istore X1.here hx rfl (hb hby at_85) rfl (l' := #[iv p0s, iv p1s, iv p2s, iv p3s, rv o1, rv o2, iv 1, iv 0]) rfl ?_
      show SF p e below T1 (mkF m 87 #[iv p0s, iv p1s, iv p2s, iv p3s, rv o1, rv o2, iv 1, iv 0] []) _
      refine XS.iload X1.here hx rfl (hb hby at_87) rfl ?_
      show SF p e below T1 (mkF m 89 #[iv p0s, iv p1s, iv p2s, iv p3s, rv o1, rv o2, iv 1, iv 0] [(.int 1)]) _
      refine XS.ifNo X1.here hx rfl (hb hby at_89) rfl ((if0 _ _).trans (feq (by decide : ¬ ((1 : Int32) = (0 : Int32)))).1) ?_
      show SF p e below T1 (mkF m 92 #[iv p0s, iv p1s, iv p2s, iv p3s, rv o1, rv o2, iv 1, iv 0] []) _
      refine XS.aload X1.here hx rfl (hb hby at_92) rfl rfl ?_
      show SF p e below T1 (mkF m 94 #[iv p0s, iv p1s, iv p2s, iv p3s, rv o1, rv o2, iv 1, iv 0] [(.ref o2)]) _
      refine st2.trans ?_
      show SF p e below T2 (mkF m 97 #[iv p0s, iv p1s, iv p2s, iv p3s, rv o1, rv o2, iv 1, iv 0] [(.int 1)]) _
      refine XS.iload X2.here hx rfl (hb hby at_97) rfl ?_
      show SF p e below T2 (mkF m 99 #[iv p0s, iv p1s, iv p2s, iv p3s, rv o1, rv o2, iv 1, iv 0] [(.int 0), (.int 1)]) _
      refine XS.ifNo X2.here hx rfl (hb hby at_99) rfl ((if0 _ _).trans (teq (by decide : (0 : Int32) = (0 : Int32))).2) ?_
      show SF p e below T2 (mkF m 102 #[iv p0s, iv p1s, iv p2s, iv p3s, rv o1, rv o2, iv 1, iv 0] [(.int 1)]) _
      refine XS.iconst X2.here hx rfl (hb hby at_102) ?_
      show SF p e below T2 (mkF m 103 #[iv p0s, iv p1s, iv p2s, iv p3s, rv o1, rv o2, iv 1, iv 0] [(.int 1), (.int 1)]) _
      refine XS.goto X2.here hx rfl (pc0 := 103) (pc' := 107) rfl (hb hby at_103) (by decide) (by decide) ?_
      show SF p e below T2 (mkF m 107 #[iv p0s, iv p1s, iv p2s, iv p3s, rv o1, rv o2, iv 1, iv 0] [(.int 1), (.int 1)]) _
      refine XS.icmpNo X2.here hx rfl (hb hby at_107) rfl (teq (by decide : (1 : Int32) = (1 : Int32))).2 ?_
      show SF p e below T2 (mkF m 110 #[iv p0s, iv p1s, iv p2s, iv p3s, rv o1, rv o2, iv 1, iv 0] []) _
      refine XS.iconst X2.here hx rfl (hb hby at_110) ?_
      show SF p e below T2 (mkF m 111 #[iv p0s, iv p1s, iv p2s, iv p3s, rv o1, rv o2, iv 1, iv 0] [(.int 1)]) _
      refine XS.goto X2.here hx rfl (pc0 := 111) (pc' := 115) rfl (hb hby at_111) (by decide) (by decide) ?_
      show SF p e below T2 (mkF m 115 #[iv p0s, iv p1s, iv p2s, iv p3s, rv o1, rv o2, iv 1, iv 0] [(.int 1)]) _
      refine XS.istore X2.here hx rfl (hb hby at_115) rfl (l' := #[iv p0s, iv p1s, iv p2s, iv p3s, rv o1, rv o2, iv 1, iv 0]) rfl ?_
      exact k
  · by_cases hc2 : (p1s &&& (1 : Int32)) = (0 : Int32)
    · obtain ⟨_, _, ⟨T1, L1, k1x, n1⟩, -, X1, ⟨Lc1, hQ1, l1, y1, z1⟩, st1⟩ := Jvm.LawKit.callS X0 hx (y := (⟨"com/example/afterlog/afterlog/ListValueIsEmptyPinLaw", "step", "(Lcom/example/afterlog/afterlog/ListValue;II[B)I"⟩ : MethodName)) hown (mvT hZ (tw hw 21 rfl)) (mvT hZ (tw hw 22 rfl)) (mvT hZ (tw hw 23 rfl)) (mvT hZ (tw hw 24 rfl)) (by decide) (backOf (W := 0) (rm4_46 l Z a0 hw [] o2 p1s o1 w2 o3 kk2 ii1 h0 n0 Z0 hc1 Sg2 O0 hc2 P3 P6 P4 P7 P5 P10 P13 P9 (Ne.symm P19) P8 P2 P15) hZ (tw hw 24 rfl) (tw hw 23 rfl) (by decide) (by decide)) (g := (mkF m 82 #[iv p0s, iv p1s, iv p2s, iv p3s, rv o1, rv o2, iv 1, iv 1] [(.ref o1), (.int p1s), (.int 1), (.ref o2)])) rfl (by rw [hml]; rfl) (argsL := [(.ref o2), (.int 1), (.int p1s), (.ref o1)]) (rest := []) (lenOf pd_4 rfl) rfl (by show 2 * 0 + _ ≤ _; exact Nat.le_of_eq rfl) (hb hby at_82) (fun _ _ => ⟨rfl, e0, (by decide : 3 + 0 ≤ _), (by decide : 12 + 0 ≤ _)⟩)
      dsimp only [Pt.U, Pt.locs, Pt.cells, Pt.slots] at X1 l1 y1 z1 st1 hQ1
      subst l1 y1 z1
      obtain ⟨i9, bx_i9, rfl, N1q, K1c, Fq1_0, Fq1_1, Fq1_2, Fq1_3, Fq1_4, Fq1_5⟩ := hQ1
      have N1 := Fr.app N0 N1q
      have Z1 : n0 ≤ T1.heap.size := Nat.le_trans Z0 K1c.1
      obtain ⟨cq2, kq2, q2a, q2b, q2c⟩ := isOf hZ rfl Fq1_0
      obtain ⟨_, _, ⟨T2, L2, k2x, n2⟩, -, X2, ⟨Lc2, hQ2, l2, y2, z2⟩, st2⟩ := X1.virtualBack hx (y := (⟨"com/example/afterlog/afterlog/ListValue", "isEmpty", "()Z"⟩ : MethodName)) (z := (⟨"com/example/afterlog/afterlog/ListValue", "isEmpty", "()Z"⟩ : MethodName)) hown (mvT hZ (tw hw 14 rfl)) (mvT hZ (tw hw 15 rfl)) (notFace_of_selects (args := #[]) (mvT hZ (tw hw 17 rfl))) (mvT hZ (tw hw 17 rfl)) (mvT hZ (tw hw 16 rfl)) (by decide) (backOf (W := 0) (rm3_10 l Z a0 hw [] o2 T1.heap n0 Z1 Fq1_1) hZ (tw hw 18 rfl) (tw hw 3 rfl) (by decide) (by decide)) q2a q2c (g := (mkF m 94 #[iv p0s, iv p1s, iv p2s, iv p3s, rv o1, rv o2, iv 1, iv 2] [(.ref o2)])) rfl (by rw [hml]; rfl) (Steps.refl _) (argsL := []) (rest := []) (lenOf pd_1 rfl) rfl (by show 2 * 0 + _ ≤ _; exact Nat.le_of_eq rfl) (hb hby at_94) (fun _ _ => ⟨rfl, rfl, (by decide : 3 + 0 ≤ _), (by decide : 12 + 0 ≤ _)⟩)
      dsimp only [Pt.U, Pt.locs, Pt.cells, Pt.slots] at X2 l2 y2 z2 st2 hQ2
      subst l2 y2 z2
      obtain ⟨rfl, N2q, e2⟩ := hQ2
      have N2 := Fr.app N1 N2q
      have F1_3 : Arv Z T1.heap o1 kk1 .byte (1 : Int32) [(.int (nar .byte ((p0s &&& (127 : Int32)).toInt8.toInt32)))] (.int (0 : Int32)) := P1.keep K1c (ninS P17 (ninS P18 nin0))
      have F1_4 : Exa Z T1.heap o1 "[B" := P2.keep K1c
      have lt_o1_1 : o1 < T1.heap.size := Nat.lt_of_lt_of_le P12 K1c.1
      have lt_o2_1 : o2 < T1.heap.size := Nat.lt_of_lt_of_le P14 K1c.1
      have lt_o3_1 : o3 < T1.heap.size := Nat.lt_of_lt_of_le P16 K1c.1
      have O1 : Old Z n0 T1.heap := O0.keep K1c (allS P13 (allS P15 all0))
      refine Fine.pre (fun t k => pre0 _ (?_)) (pc_2 (o1 := o1) (o2 := o2) (kk1 := kk1) (o3 := o3) (kk2 := kk2) (ii1 := i9) X2 hx hZ hw hby hml hown hre hlk e2 N2 Z1 O1 Sg0 E_w1 Sg2 E_w2 F_w1_ordinal F_w2_ordinal F1_3 F1_4 Fq1_0 Fq1_2 Fq1_3 Fq1_1 Fq1_5 P8 Fq1_4 bx_i9 P11 lt_o1_1 P13 lt_o2_1 P15 lt_o3_1 P17 P18 P19)
      show SF p e below T0 (mkF m 82 #[iv p0s, iv p1s, iv p2s, iv p3s, rv o1, rv o2, iv 1, iv 1] [(.ref o1), (.int p1s), (.int 1), (.ref o2)]) _
      refine st1 _ ?_
      show SF p e below T1 (mkF m 85 #[iv p0s, iv p1s, iv p2s, iv p3s, rv o1, rv o2, iv 1, iv 1] [(.int 2)]) _
      refine XS.istore X1.here hx rfl (hb hby at_85) rfl (l' := #[iv p0s, iv p1s, iv p2s, iv p3s, rv o1, rv o2, iv 1, iv 2]) rfl ?_
      show SF p e below T1 (mkF m 87 #[iv p0s, iv p1s, iv p2s, iv p3s, rv o1, rv o2, iv 1, iv 2] []) _
      refine XS.iload X1.here hx rfl (hb hby at_87) rfl ?_
      show SF p e below T1 (mkF m 89 #[iv p0s, iv p1s, iv p2s, iv p3s, rv o1, rv o2, iv 1, iv 2] [(.int 1)]) _
      refine XS.ifNo X1.here hx rfl (hb hby at_89) rfl ((if0 _ _).trans (feq (by decide : ¬ ((1 : Int32) = (0 : Int32)))).1) ?_
      show SF p e below T1 (mkF m 92 #[iv p0s, iv p1s, iv p2s, iv p3s, rv o1, rv o2, iv 1, iv 2] []) _
      refine XS.aload X1.here hx rfl (hb hby at_92) rfl rfl ?_
      show SF p e below T1 (mkF m 94 #[iv p0s, iv p1s, iv p2s, iv p3s, rv o1, rv o2, iv 1, iv 2] [(.ref o2)]) _
      refine st2.trans ?_
      show SF p e below T2 (mkF m 97 #[iv p0s, iv p1s, iv p2s, iv p3s, rv o1, rv o2, iv 1, iv 2] [(.int 0)]) _
      refine XS.iload X2.here hx rfl (hb hby at_97) rfl ?_
      show SF p e below T2 (mkF m 99 #[iv p0s, iv p1s, iv p2s, iv p3s, rv o1, rv o2, iv 1, iv 2] [(.int 2), (.int 0)]) _
      refine XS.ifYes X2.here hx rfl (pc0 := 99) (pc' := 106) rfl (hb hby at_99) rfl ((if0 _ _).trans (feq (by decide : ¬ ((2 : Int32) = (0 : Int32)))).2) (by decide) (by decide) ?_
      show SF p e below T2 (mkF m 106 #[iv p0s, iv p1s, iv p2s, iv p3s, rv o1, rv o2, iv 1, iv 2] [(.int 0)]) _
      refine XS.iconst X2.here hx rfl (hb hby at_106) ?_
      show SF p e below T2 (mkF m 107 #[iv p0s, iv p1s, iv p2s, iv p3s, rv o1, rv o2, iv 1, iv 2] [(.int 0), (.int 0)]) _
      refine XS.icmpNo X2.here hx rfl (hb hby at_107) rfl (teq (by decide : (0 : Int32) = (0 : Int32))).2 ?_
      show SF p e below T2 (mkF m 110 #[iv p0s, iv p1s, iv p2s, iv p3s, rv o1, rv o2, iv 1, iv 2] []) _
      refine XS.iconst X2.here hx rfl (hb hby at_110) ?_
      show SF p e below T2 (mkF m 111 #[iv p0s, iv p1s, iv p2s, iv p3s, rv o1, rv o2, iv 1, iv 2] [(.int 1)]) _
      refine XS.goto X2.here hx rfl (pc0 := 111) (pc' := 115) rfl (hb hby at_111) (by decide) (by decide) ?_
      show SF p e below T2 (mkF m 115 #[iv p0s, iv p1s, iv p2s, iv p3s, rv o1, rv o2, iv 1, iv 2] [(.int 1)]) _
      refine XS.istore X2.here hx rfl (hb hby at_115) rfl (l' := #[iv p0s, iv p1s, iv p2s, iv p3s, rv o1, rv o2, iv 1, iv 2]) rfl ?_
      exact k
    · obtain ⟨_, _, ⟨T1, L1, k1x, n1⟩, -, X1, ⟨Lc1, hQ1, l1, y1, z1⟩, st1⟩ := Jvm.LawKit.callS X0 hx (y := (⟨"com/example/afterlog/afterlog/ListValueIsEmptyPinLaw", "step", "(Lcom/example/afterlog/afterlog/ListValue;II[B)I"⟩ : MethodName)) hown (mvT hZ (tw hw 21 rfl)) (mvT hZ (tw hw 22 rfl)) (mvT hZ (tw hw 23 rfl)) (mvT hZ (tw hw 24 rfl)) (by decide) (backOf (W := 0) (rm4_48 l Z a0 hw [] o2 p1s o1 w2 ii1 o3 kk2 h0 n0 Z0 hc1 Sg2 O0 hc2 P3 P5 P4 P7 P10 P9 P15 P19 P6 P13) hZ (tw hw 24 rfl) (tw hw 23 rfl) (by decide) (by decide)) (g := (mkF m 82 #[iv p0s, iv p1s, iv p2s, iv p3s, rv o1, rv o2, iv 1, iv 1] [(.ref o1), (.int p1s), (.int 1), (.ref o2)])) rfl (by rw [hml]; rfl) (argsL := [(.ref o2), (.int 1), (.int p1s), (.ref o1)]) (rest := []) (lenOf pd_4 rfl) rfl (by show 2 * 0 + _ ≤ _; exact Nat.le_of_eq rfl) (hb hby at_82) (fun _ _ => ⟨rfl, e0, (by decide : 3 + 0 ≤ _), (by decide : 12 + 0 ≤ _)⟩)
      dsimp only [Pt.U, Pt.locs, Pt.cells, Pt.slots] at X1 l1 y1 z1 st1 hQ1
      subst l1 y1 z1
      obtain ⟨i11, bx_i11, rfl, N1q, K1c, Fq1_0, Fq1_1, Fq1_2, Fq1_3, Fq1_4, Fq1_5⟩ := hQ1
      have N1 := Fr.app N0 N1q
      have Z1 : n0 ≤ T1.heap.size := Nat.le_trans Z0 K1c.1
      obtain ⟨cq2, kq2, q2a, q2b, q2c⟩ := isOf hZ rfl Fq1_2
      obtain ⟨_, _, ⟨T2, L2, k2x, n2⟩, -, X2, ⟨Lc2, hQ2, l2, y2, z2⟩, st2⟩ := X1.virtualBack hx (y := (⟨"com/example/afterlog/afterlog/ListValue", "isEmpty", "()Z"⟩ : MethodName)) (z := (⟨"com/example/afterlog/afterlog/ListValue", "isEmpty", "()Z"⟩ : MethodName)) hown (mvT hZ (tw hw 14 rfl)) (mvT hZ (tw hw 15 rfl)) (notFace_of_selects (args := #[]) (mvT hZ (tw hw 17 rfl))) (mvT hZ (tw hw 17 rfl)) (mvT hZ (tw hw 16 rfl)) (by decide) (backOf (W := 0) (rm3_2 l Z a0 hw [] o2 T1.heap n0 Z1 Fq1_5) hZ (tw hw 18 rfl) (tw hw 3 rfl) (by decide) (by decide)) q2a q2c (g := (mkF m 94 #[iv p0s, iv p1s, iv p2s, iv p3s, rv o1, rv o2, iv 1, iv 0] [(.ref o2)])) rfl (by rw [hml]; rfl) (Steps.refl _) (argsL := []) (rest := []) (lenOf pd_1 rfl) rfl (by show 2 * 0 + _ ≤ _; exact Nat.le_of_eq rfl) (hb hby at_94) (fun _ _ => ⟨rfl, rfl, (by decide : 3 + 0 ≤ _), (by decide : 12 + 0 ≤ _)⟩)
      dsimp only [Pt.U, Pt.locs, Pt.cells, Pt.slots] at X2 l2 y2 z2 st2 hQ2
      subst l2 y2 z2
      obtain ⟨rfl, N2q, e2⟩ := hQ2
      have N2 := Fr.app N1 N2q
      have F1_3 : Arv Z T1.heap o1 kk1 .byte (1 : Int32) [(.int (nar .byte ((p0s &&& (127 : Int32)).toInt8.toInt32)))] (.int (0 : Int32)) := P1.keep K1c (ninS P18 (ninS P17 nin0))
      have F1_4 : Exa Z T1.heap o1 "[B" := P2.keep K1c
      have lt_o1_1 : o1 < T1.heap.size := Nat.lt_of_lt_of_le P12 K1c.1
      have lt_o2_1 : o2 < T1.heap.size := Nat.lt_of_lt_of_le P14 K1c.1
      have lt_o3_1 : o3 < T1.heap.size := Nat.lt_of_lt_of_le P16 K1c.1
      have O1 : Old Z n0 T1.heap := O0.keep K1c (allS P15 (allS P13 all0))
      refine Fine.pre (fun t k => pre0 _ (?_)) (pc_5 (o1 := o1) (o2 := o2) (kk1 := kk1) (o3 := o3) (kk2 := kk2) (ii1 := i11) X2 hx hZ hw hby hml hown hre hlk e2 N2 Z1 O1 Sg0 E_w1 Sg2 E_w2 F_w1_ordinal F_w2_ordinal F1_3 F1_4 Fq1_2 Fq1_4 Fq1_3 Fq1_5 Fq1_1 P8 Fq1_0 bx_i11 P11 lt_o1_1 P13 lt_o2_1 P15 lt_o3_1 P17 P18 P19)
      show SF p e below T0 (mkF m 82 #[iv p0s, iv p1s, iv p2s, iv p3s, rv o1, rv o2, iv 1, iv 1] [(.ref o1), (.int p1s), (.int 1), (.ref o2)]) _
      refine st1 _ ?_
      show SF p e below T1 (mkF m 85 #[iv p0s, iv p1s, iv p2s, iv p3s, rv o1, rv o2, iv 1, iv 1] [(.int 0)]) _
      refine XS.istore X1.here hx rfl (hb hby at_85) rfl (l' := #[iv p0s, iv p1s, iv p2s, iv p3s, rv o1, rv o2, iv 1, iv 0]) rfl ?_
      show SF p e below T1 (mkF m 87 #[iv p0s, iv p1s, iv p2s, iv p3s, rv o1, rv o2, iv 1, iv 0] []) _
      refine XS.iload X1.here hx rfl (hb hby at_87) rfl ?_
      show SF p e below T1 (mkF m 89 #[iv p0s, iv p1s, iv p2s, iv p3s, rv o1, rv o2, iv 1, iv 0] [(.int 1)]) _
      refine XS.ifNo X1.here hx rfl (hb hby at_89) rfl ((if0 _ _).trans (feq (by decide : ¬ ((1 : Int32) = (0 : Int32)))).1) ?_
      show SF p e below T1 (mkF m 92 #[iv p0s, iv p1s, iv p2s, iv p3s, rv o1, rv o2, iv 1, iv 0] []) _
      refine XS.aload X1.here hx rfl (hb hby at_92) rfl rfl ?_
      show SF p e below T1 (mkF m 94 #[iv p0s, iv p1s, iv p2s, iv p3s, rv o1, rv o2, iv 1, iv 0] [(.ref o2)]) _
      refine st2.trans ?_
      show SF p e below T2 (mkF m 97 #[iv p0s, iv p1s, iv p2s, iv p3s, rv o1, rv o2, iv 1, iv 0] [(.int 1)]) _
      refine XS.iload X2.here hx rfl (hb hby at_97) rfl ?_
      show SF p e below T2 (mkF m 99 #[iv p0s, iv p1s, iv p2s, iv p3s, rv o1, rv o2, iv 1, iv 0] [(.int 0), (.int 1)]) _
      refine XS.ifNo X2.here hx rfl (hb hby at_99) rfl ((if0 _ _).trans (teq (by decide : (0 : Int32) = (0 : Int32))).2) ?_
      show SF p e below T2 (mkF m 102 #[iv p0s, iv p1s, iv p2s, iv p3s, rv o1, rv o2, iv 1, iv 0] [(.int 1)]) _
      refine XS.iconst X2.here hx rfl (hb hby at_102) ?_
      show SF p e below T2 (mkF m 103 #[iv p0s, iv p1s, iv p2s, iv p3s, rv o1, rv o2, iv 1, iv 0] [(.int 1), (.int 1)]) _
      refine XS.goto X2.here hx rfl (pc0 := 103) (pc' := 107) rfl (hb hby at_103) (by decide) (by decide) ?_
      show SF p e below T2 (mkF m 107 #[iv p0s, iv p1s, iv p2s, iv p3s, rv o1, rv o2, iv 1, iv 0] [(.int 1), (.int 1)]) _
      refine XS.icmpNo X2.here hx rfl (hb hby at_107) rfl (teq (by decide : (1 : Int32) = (1 : Int32))).2 ?_
      show SF p e below T2 (mkF m 110 #[iv p0s, iv p1s, iv p2s, iv p3s, rv o1, rv o2, iv 1, iv 0] []) _
      refine XS.iconst X2.here hx rfl (hb hby at_110) ?_
      show SF p e below T2 (mkF m 111 #[iv p0s, iv p1s, iv p2s, iv p3s, rv o1, rv o2, iv 1, iv 0] [(.int 1)]) _
      refine XS.goto X2.here hx rfl (pc0 := 111) (pc' := 115) rfl (hb hby at_111) (by decide) (by decide) ?_
      show SF p e below T2 (mkF m 115 #[iv p0s, iv p1s, iv p2s, iv p3s, rv o1, rv o2, iv 1, iv 0] [(.int 1)]) _
      refine XS.istore X2.here hx rfl (hb hby at_115) rfl (l' := #[iv p0s, iv p1s, iv p2s, iv p3s, rv o1, rv o2, iv 1, iv 0]) rfl ?_
      exact k
-- ListValueIsEmptyPinLaw.step 
def Q4_49 (Z : State) (u1 : Addr) (u2 : Int32) (u3 : Addr) (w1 : Addr) (u4 : Addr) (u5 : ClassId) (w2 : Addr) (h0 : Heap) (n0 : Nat) (v : Option Value) (h : Heap) (L : List Loc) : Prop := v = some (.int 1) ∧ Fr n0 L ∧ Keep h0 h [u4, u1] ∧ Exa Z h u4 "[[B" ∧ Ary Z h u4 u5 (.array .byte) (8 : Int32) ∧ Exa Z h u1 "com/example/afterlog/afterlog/ListValue" ∧ Fld Z h u1 "com/example/afterlog/afterlog/ListValue" "size" "I" (.int 1) ∧ Fld Z h u1 "com/example/afterlog/afterlog/ListValue" "elements" "[[B" (.ref u4) ∧ Fld Z h u1 "com/example/afterlog/afterlog/ListValue" "head" "I" (.int 0)
set_option maxRecDepth 65536 in
set_option maxHeartbeats 40000000 in
theorem rm4_49 (l : Launch) (Z : State) (a0 : Array Value) (hw : HW Z a0) (ws : List Jvm.Cond) (u1 : Addr) (u2 : Int32) (u3 : Addr) (w1 : Addr) (u4 : Addr) (u5 : ClassId) (w2 : Addr) (h0 : Heap) (n0 : Nat) (Z0 : n0 ≤ h0.size) (P1 : (u2 &&& (2 : Int32)) = (0 : Int32)) (Sg0 : Sta Z Z.heap "com/example/afterlog/afterlog/ListValue$End" "TAIL" "Lcom/example/afterlog/afterlog/ListValue$End;" (.ref w1)) (P3 : Old Z n0 h0) (P4 : ¬ ((u2 &&& (1 : Int32)) = (0 : Int32))) (P5 : Exa Z h0 u1 "com/example/afterlog/afterlog/ListValue") (P6 : Fld Z h0 u1 "com/example/afterlog/afterlog/ListValue" "size" "I" (.int 0)) (P7 : Fld Z h0 u1 "com/example/afterlog/afterlog/ListValue" "elements" "[[B" (.ref u4)) (P8 : Ary Z h0 u4 u5 (.array .byte) (8 : Int32)) (Sg2 : Sta Z Z.heap "com/example/afterlog/afterlog/ListValue$End" "HEAD" "Lcom/example/afterlog/afterlog/ListValue$End;" (.ref w2)) (F_w1_ordinal : Fld Z Z.heap w1 "java/lang/Enum" "ordinal" "I" (.int 1)) (F_w2_ordinal : Fld Z Z.heap w2 "java/lang/Enum" "ordinal" "I" (.int 0)) (P12 : Fld Z h0 u1 "com/example/afterlog/afterlog/ListValue" "head" "I" (.int 0)) (P13 : Exa Z h0 u4 "[[B") (P14 : OvrA Z u5 .byte "[B") (P15 : Exa Z h0 u3 "[B") (P16 : n0 ≤ u4) (P17 : u1 ≠ u4) (P18 : n0 ≤ u1) :
    MF l Z (⟨"com/example/afterlog/afterlog/ListValueIsEmptyPinLaw", "step", "(Lcom/example/afterlog/afterlog/ListValue;II[B)I"⟩ : MethodName) (Jvm.Cond.code (⟨"com/example/afterlog/afterlog/ListValueIsEmptyPinLaw", "step", "(Lcom/example/afterlog/afterlog/ListValue;II[B)I"⟩ : MethodName) method_3_code 5 (some .int)) ws ({ frames := 2, cells := 0, slots := 0, locals := 29 } : Room) #[(.ref u1), (.int 0), (.int u2), (.ref u3)] h0 (Q4_49 Z u1 u2 u3 w1 u4 u5 w2 h0 n0) := by
  refine MetFree.of_bodySF (plainFor_of_name pn_1) hisR ?_
  intro p e s m args below meth c s₁ Bd hml0 hP hK
  obtain ⟨rfl, hZ, hh⟩ := hP
  have hx := Bd.exec
  have hby := Bd.bytes
  have hml : c.maxLocals = 5 := hml0
  have hown : s.vm.findClass "com/example/afterlog/afterlog/ListValueIsEmptyPinLaw" = some m.cls := findClass_of_methodNamed Bd.named
  have hnm := (name_of_methodNamed Bd.named Bd.method).1
  have X0 : Stand p l e ({ frames := 2, cells := 0, slots := 0, locals := 29 } : Room) s m #[(.ref u1), (.int 0), (.int u2), (.ref u3)] below meth c s₁ [] 0 0 := Stand.of_body Bd
  have e0 : s₁.heap = h0 := by rw [← hh, Bd.state]; rfl
  have N0 := Fr.nil n0
  have pre0 : ∀ t, SF p e below s₁ (mkF m 0 #[rv u1, iv 0, iv u2, rv u3, .unset] []) t → SF p e below s₁ (entryFrame m #[(.ref u1), (.int 0), (.int u2), (.ref u3)] 5) t := fun t k => castTop (ef_4 m u1 (0 : Int32) u2 u3) k
  obtain ⟨T1, X1, e1, st1⟩ := getS2 X0 hx hZ hown (host := "") (Or.inl (tw hw 25 rfl)) Via.refl e0 (Sg0.ext P3.2) (g := (mkF m 12 #[rv u1, iv 0, iv u2, rv u3, .unset] [])) rfl (hb hby d4_12)
  obtain ⟨cq2, kq2, q2a, q2b, q2c⟩ := isOf hZ e1 P5
  obtain ⟨_, _, ⟨T2, L2, k2x, n2⟩, -, X2, ⟨Lc2, hQ2, l2, y2, z2⟩, st2⟩ := X1.virtualBack hx (y := (⟨"com/example/afterlog/afterlog/ListValue", "push", "(Lcom/example/afterlog/afterlog/ListValue$End;[B)V"⟩ : MethodName)) (z := (⟨"com/example/afterlog/afterlog/ListValue", "push", "(Lcom/example/afterlog/afterlog/ListValue$End;[B)V"⟩ : MethodName)) hown (mvT hZ (tw hw 28 rfl)) (mvT hZ (tw hw 29 rfl)) (notFace_of_selects (args := #[]) (mvT hZ (tw hw 31 rfl))) (mvT hZ (tw hw 31 rfl)) (mvT hZ (tw hw 30 rfl)) (by decide) (backOf (W := 0) (rm5_5 l Z a0 hw [] u1 w1 u3 u4 u5 w2 h0 n0 Z0 P6 P7 P8 Sg2 P3 F_w1_ordinal F_w2_ordinal P5 P12 P13 P14 P15 P16 P17 P18) hZ (tw hw 32 rfl) (tw hw 3 rfl) (by decide) (by decide)) q2a q2c (g := (mkF m 42 #[rv u1, iv 0, iv u2, rv u3, rv w1] [(.ref u3), (.ref w1), (.ref u1)])) rfl (by rw [hml]; rfl) (Steps.refl _) (argsL := [(.ref w1), (.ref u3)]) (rest := []) (lenOf pd_3 rfl) rfl (by show 2 * 0 + _ ≤ _; exact Nat.le_of_eq rfl) (hb hby d4_42) (fun _ _ => ⟨rfl, e1, (by decide : 0 + 0 ≤ _), (by decide : 0 + 0 ≤ _)⟩)
  dsimp only [Pt.U, Pt.locs, Pt.cells, Pt.slots] at X2 l2 y2 z2 st2 hQ2
  subst l2 y2 z2
  obtain ⟨rfl, N2q, K2c, Fq2_0, Fq2_1, Fq2_2, Fq2_3, Fq2_4, Fq2_5⟩ := hQ2
  have K2 : Keep h0 T2.heap [u4, u1] := (Keep.refl h0 [u4, u1]).trans K2c (allS (Or.inl (List.mem_of_getElem? (i := 0) rfl)) (allS (Or.inl (List.mem_of_getElem? (i := 1) rfl)) all0))
  have N2 := Fr.app N0 N2q
  obtain ⟨fs, hr, hrun, hended, hW, hsame⟩ := X2.leave (v := some (.int 1)) (fun h => by rw [Bd.returns] at h; cases h)
  refine ⟨_, _, pre0 _ ?_, hrun, hended, _, _, rfl, ?_, ⟨_, rfl⟩, hW, hsame.mono (by decide) (by decide)⟩
  · show SF p e below s₁ (mkF m 0 #[rv u1, iv 0, iv u2, rv u3, .unset] []) _
    refine XS.iloadN X0.here hx rfl (hb hby d4_0) rfl ?_
    show SF p e below s₁ (mkF m 1 #[rv u1, iv 0, iv u2, rv u3, .unset] [(.int u2)]) _
    refine XS.iconst X0.here hx rfl (hb hby d4_1) ?_
    show SF p e below s₁ (mkF m 2 #[rv u1, iv 0, iv u2, rv u3, .unset] [(.int 2), (.int u2)]) _
    refine XS.iand X0.here hx rfl (hb hby d4_2) rfl ?_
    show SF p e below s₁ (mkF m 3 #[rv u1, iv 0, iv u2, rv u3, .unset] [(.int (u2 &&& (2 : Int32)))]) _
    refine XS.ifYes X0.here hx rfl (pc0 := 3) (pc' := 12) rfl (hb hby d4_3) rfl ((if0 _ _).trans (teq P1).1) (by decide) (by decide) ?_
    show SF p e below s₁ (mkF m 12 #[rv u1, iv 0, iv u2, rv u3, .unset] []) _
    refine st1 _ ?_
    show SF p e below T1 (mkF m 15 #[rv u1, iv 0, iv u2, rv u3, .unset] [(.ref w1)]) _
    refine XS.astore X1.here hx rfl (hb hby d4_15) rfl rfl (l' := #[rv u1, iv 0, iv u2, rv u3, rv w1]) rfl ?_
    show SF p e below T1 (mkF m 17 #[rv u1, iv 0, iv u2, rv u3, rv w1] []) _
    refine XS.iloadN X1.here hx rfl (hb hby d4_17) rfl ?_
    show SF p e below T1 (mkF m 18 #[rv u1, iv 0, iv u2, rv u3, rv w1] [(.int u2)]) _
    refine XS.iconst X1.here hx rfl (hb hby d4_18) ?_
    show SF p e below T1 (mkF m 19 #[rv u1, iv 0, iv u2, rv u3, rv w1] [(.int 1), (.int u2)]) _
    refine XS.iand X1.here hx rfl (hb hby d4_19) rfl ?_
    show SF p e below T1 (mkF m 20 #[rv u1, iv 0, iv u2, rv u3, rv w1] [(.int (u2 &&& (1 : Int32)))]) _
    refine XS.ifNo X1.here hx rfl (hb hby d4_20) rfl ((if0 _ _).trans (feq P4).1) ?_
    show SF p e below T1 (mkF m 23 #[rv u1, iv 0, iv u2, rv u3, rv w1] []) _
    refine XS.iloadN X1.here hx rfl (hb hby d4_23) rfl ?_
    show SF p e below T1 (mkF m 24 #[rv u1, iv 0, iv u2, rv u3, rv w1] [(.int 0)]) _
    refine XS.ifYes X1.here hx rfl (pc0 := 24) (pc' := 38) rfl (hb hby d4_24) rfl ((if0 _ _).trans (flt (by decide : ¬ ((0 : Int32) < (0 : Int32)))).2.2.2) (by decide) (by decide) ?_
    show SF p e below T1 (mkF m 38 #[rv u1, iv 0, iv u2, rv u3, rv w1] []) _
    refine XS.aloadN X1.here hx rfl (hb hby d4_38) rfl rfl ?_
    show SF p e below T1 (mkF m 39 #[rv u1, iv 0, iv u2, rv u3, rv w1] [(.ref u1)]) _
    refine XS.aload X1.here hx rfl (hb hby d4_39) rfl rfl ?_
    show SF p e below T1 (mkF m 41 #[rv u1, iv 0, iv u2, rv u3, rv w1] [(.ref w1), (.ref u1)]) _
    refine XS.aloadN X1.here hx rfl (hb hby d4_41) rfl rfl ?_
    show SF p e below T1 (mkF m 42 #[rv u1, iv 0, iv u2, rv u3, rv w1] [(.ref u3), (.ref w1), (.ref u1)]) _
    refine st2.trans ?_
    show SF p e below T2 (mkF m 45 #[rv u1, iv 0, iv u2, rv u3, rv w1] []) _
    refine XS.iloadN X2.here hx rfl (hb hby d4_45) rfl ?_
    show SF p e below T2 (mkF m 46 #[rv u1, iv 0, iv u2, rv u3, rv w1] [(.int 0)]) _
    refine XS.iconst X2.here hx rfl (hb hby d4_46) ?_
    show SF p e below T2 (mkF m 47 #[rv u1, iv 0, iv u2, rv u3, rv w1] [(.int 1), (.int 0)]) _
    refine XS.iadd X2.here hx rfl (hb hby d4_47) rfl ?_
    show SF p e below T2 (mkF m 48 #[rv u1, iv 0, iv u2, rv u3, rv w1] [(.int ((0 : Int32) + (1 : Int32)))]) _
    rw [show ((0 : Int32) + (1 : Int32)) = (1 : Int32) from by decide]
    show SF p e below T2 (mkF m 48 #[rv u1, iv 0, iv u2, rv u3, rv w1] [(.int 1)]) _
    exact retI X2 hx Bd.returns (hb hby d4_48) hr
  · show Q4_49 Z u1 u2 u3 w1 u4 u5 w2 h0 n0 _ T2.heap _
    exact ⟨rfl, N2, K2, Fq2_1, Fq2_0, Fq2_4, Fq2_2, Fq2_3, Fq2_5⟩
-- ListValue.push 
def Q5_50 (Z : State) (u1 : Addr) (w2 : Addr) (u2 : Addr) (u3 : Addr) (u4 : ClassId) (h0 : Heap) (n0 : Nat) (v : Option Value) (h : Heap) (L : List Loc) : Prop := ∃ e1x : Int32, (¬ e1x < (0 : Int32) ∧ e1x < (8 : Int32)) ∧ v = none ∧ Fr n0 L ∧ Keep h0 h [u1, u3] ∧ Fld Z h u1 "com/example/afterlog/afterlog/ListValue" "size" "I" (.int 1) ∧ Fld Z h u1 "com/example/afterlog/afterlog/ListValue" "elements" "[[B" (.ref u3) ∧ Exa Z h u1 "com/example/afterlog/afterlog/ListValue" ∧ Fld Z h u1 "com/example/afterlog/afterlog/ListValue" "head" "I" (.int e1x) ∧ Ary Z h u3 u4 (.array .byte) (8 : Int32) ∧ Exa Z h u3 "[[B"
set_option maxRecDepth 65536 in
set_option maxHeartbeats 40000000 in
theorem rm5_50 (l : Launch) (Z : State) (a0 : Array Value) (hw : HW Z a0) (ws : List Jvm.Cond) (u1 : Addr) (w2 : Addr) (u2 : Addr) (u3 : Addr) (u4 : ClassId) (h0 : Heap) (n0 : Nat) (Z0 : n0 ≤ h0.size) (P1 : Fld Z h0 u1 "com/example/afterlog/afterlog/ListValue" "size" "I" (.int 0)) (P2 : Fld Z h0 u1 "com/example/afterlog/afterlog/ListValue" "elements" "[[B" (.ref u3)) (P3 : Ary Z h0 u3 u4 (.array .byte) (8 : Int32)) (Sg2 : Sta Z Z.heap "com/example/afterlog/afterlog/ListValue$End" "HEAD" "Lcom/example/afterlog/afterlog/ListValue$End;" (.ref w2)) (P5 : Old Z n0 h0) (P6 : Exa Z h0 u1 "com/example/afterlog/afterlog/ListValue") (P7 : Fld Z h0 u1 "com/example/afterlog/afterlog/ListValue" "head" "I" (.int 0)) (P8 : n0 ≤ u1) (P9 : Exa Z h0 u3 "[[B") (P10 : u3 ≠ u1) (P11 : OvrA Z u4 .byte "[B") (P12 : Exa Z h0 u2 "[B") (P13 : n0 ≤ u3) :
    MF l Z (⟨"com/example/afterlog/afterlog/ListValue", "push", "(Lcom/example/afterlog/afterlog/ListValue$End;[B)V"⟩ : MethodName) (Jvm.Cond.code (⟨"com/example/afterlog/afterlog/ListValue", "push", "(Lcom/example/afterlog/afterlog/ListValue$End;[B)V"⟩ : MethodName) prog_24_method_6_code 3 none) ws ({ frames := 1, cells := 0, slots := 0, locals := 15 } : Room) #[(.ref u1), (.ref w2), (.ref u2)] h0 (Q5_50 Z u1 w2 u2 u3 u4 h0 n0) := by
  refine MetFree.of_bodySF (plainFor_of_name pn_0) hisR ?_
  intro p e s m args below meth c s₁ Bd hml0 hP hK
  obtain ⟨rfl, hZ, hh⟩ := hP
  have hx := Bd.exec
  have hby := Bd.bytes
  have hml : c.maxLocals = 3 := hml0
  have hown : s.vm.findClass "com/example/afterlog/afterlog/ListValue" = some m.cls := findClass_of_methodNamed Bd.named
  have hnm := (name_of_methodNamed Bd.named Bd.method).1
  have X0 : Stand p l e ({ frames := 1, cells := 0, slots := 0, locals := 15 } : Room) s m #[(.ref u1), (.ref w2), (.ref u2)] below meth c s₁ [] 0 0 := Stand.of_body Bd
  have e0 : s₁.heap = h0 := by rw [← hh, Bd.state]; rfl
  have N0 := Fr.nil n0
  have pre0 : ∀ t, SF p e below s₁ (mkF m 0 #[rv u1, rv w2, rv u2] []) t → SF p e below s₁ (entryFrame m #[(.ref u1), (.ref w2), (.ref u2)] 3) t := fun t k => castTop (ef_3 m u1 w2 u2) k
  obtain ⟨T1, X1, e1, st1⟩ := getF X0 hx hZ hown (host := "") (Or.inl (tw hw 19 rfl)) Via.refl e0 P1 (g := (mkF m 1 #[rv u1, rv w2, rv u2] [(.ref u1)])) rfl rfl (hb hby d5_1)
  obtain ⟨T2, X2, e2, st2⟩ := getF X1 hx hZ hown (host := "") (Or.inl (tw hw 12 rfl)) Via.refl e1 P2 (g := (mkF m 5 #[rv u1, rv w2, rv u2] [(.ref u1), (.int 0)])) rfl rfl (hb hby d5_5)
  obtain ⟨cl3, Ar3, q3, S3, N3z, H3⟩ := id P3
  obtain ⟨T4, X4, e4, st4⟩ := getS2 X2 hx hZ hown (host := "") (Or.inl (tw hw 33 rfl)) Via.refl e2 (Sg2.ext P5.2) (g := (mkF m 17 #[rv u1, rv w2, rv u2] [(.ref w2)])) rfl (hb hby d5_17)
  obtain ⟨T5, X5, e5, st5⟩ := getF X4 hx hZ hown (host := "") (Or.inl (tw hw 12 rfl)) Via.refl e4 P2 (g := (mkF m 26 #[rv u1, rv w2, rv u2] [(.ref u1), (.ref u1), (.ref u1)])) rfl rfl (hb hby d5_26)
  obtain ⟨cl6, Ar6, q6, S6, N6z, H6⟩ := id P3
  obtain ⟨cq7, q7, q7'⟩ := P6.cell
  obtain ⟨_, _, ⟨T7, L7, k7x, n7⟩, -, X7, ⟨Lc7, hQ7, l7, y7, z7⟩, st7⟩ := X5.privateBack hx (y := (⟨"com/example/afterlog/afterlog/ListValue", "slot", "(I)I"⟩ : MethodName)) hown (mvT hZ (tw hw 35 rfl)) (mvT hZ (tw hw 36 rfl)) (own_selP hZ (tw hw 2 rfl) (tw hw 37 rfl) (tw hw 36 rfl) (by decide)) (Cond.privateMethod_at (mvP hZ (tw hw 37 rfl) (args := #[]))) (mvT hZ (tw hw 38 rfl)) (by decide) (backOf (W := 1) (own_slot l Z a0 hw [] u1 u3 u4 (0 : Int32) (7 : Int32) h0 n0 Z0 P2 P7 P3 ⟨by decide, by decide⟩ ⟨by decide, by decide⟩) hZ (tw hw 38 rfl) (tw hw 3 rfl) (by decide) (by decide)) (g := (mkF m 32 #[rv u1, rv w2, rv u2] [(.int 7), (.ref u1), (.ref u1)])) rfl (by rw [hml]; rfl) (Steps.refl _) (a := u1) (by rw [e5]; exact q7) q7' (argsL := [(.int 7)]) (rest := [(.ref u1)]) (lenOf pd_2 rfl) rfl (by show 2 * 0 + _ ≤ _; exact Nat.le_of_eq rfl) (hb hby d5_32) (fun _ _ => ⟨rfl, e5, (by decide : 0 + 0 ≤ _), (by decide : 0 + 0 ≤ _)⟩)
  dsimp only [Pt.U, Pt.locs, Pt.cells, Pt.slots] at X7 l7 y7 z7 st7 hQ7
  subst l7 y7 z7
  obtain ⟨e1x, bx_i6, rfl, N7q, e7⟩ := hQ7
  have N7 := Fr.app N0 N7q
  obtain ⟨T8, h8, X8, e8, W8, st8⟩ := putF X7 hx hZ hown (host := "") (Or.inl (tw hw 39 rfl)) Via.refl e7 P7 P6 (Or.inl (tw hw 40 rfl)) (tw hw 2 rfl) (ty := .int) (by decide) rfl rfl (g := (mkF m 35 #[rv u1, rv w2, rv u2] [(.int e1x), (.ref u1)])) rfl rfl (hb hby d5_35)
  have K8 : Keep h0 h8 [u1, u3] := (Keep.refl h0 [u1, u3]).wr W8 (Or.inl (List.mem_of_getElem? (i := 0) rfl))
  have N8 := Fr.snoc X8 N7 P8
  have Fw8 : Fld Z h8 u1 "com/example/afterlog/afterlog/ListValue" "head" "I" (.int e1x) := P7.same W8
  have F1_9 : Fld Z h8 u1 "com/example/afterlog/afterlog/ListValue" "elements" "[[B" (.ref u3) := P2.other W8 (Or.inr (slot_ne (Or.inl (tw hw 13 rfl)) (Or.inl (tw hw 40 rfl)) (by decide) (t := (.array (.array .byte))) (t' := .int) (by decide) (by decide)))
  obtain ⟨T10, X10, e10, st10⟩ := getF X8 hx hZ hown (host := "") (Or.inl (tw hw 12 rfl)) Via.refl e8 F1_9 (g := (mkF m 39 #[rv u1, rv w2, rv u2] [(.ref u1)])) rfl rfl (hb hby d5_39)
  obtain ⟨T11, X11, e11, st11⟩ := getF X10 hx hZ hown (host := "") (Or.inl (tw hw 39 rfl)) Via.refl e10 Fw8 (g := (mkF m 43 #[rv u1, rv w2, rv u2] [(.ref u1), (.ref u3)])) rfl rfl (hb hby d5_43)
  have F1_12 : Exa Z h8 u3 "[[B" := P9.wr W8
  have F1_13 : Ary Z h8 u3 u4 (.array .byte) (8 : Int32) := P3.other W8 P10
  obtain ⟨cl14, Ar14, q14, S14, N14z, H14⟩ := id F1_13
  have hin14 : ¬ (e1x < 0 ∨ cl14.slots.size ≤ (e1x).toNatClampNeg) := inb_of S14 ⟨(bx_i6).1, (bx_i6).2⟩
  have F1_15 : Exa Z h8 u2 "[B" := P12.wr W8
  obtain ⟨T16, h16, X16, e16, W16, st16⟩ := stR X11 hx hZ e11 Ar14 (j := e1x) hin14 rfl (Sto.ofVA Ar14 q14 P11 (Ins.self F1_15)) (g := (mkF m 47 #[rv u1, rv w2, rv u2] [(.ref u2), (.int e1x), (.ref u3)])) rfl rfl (hb hby d5_47)
  have K16 : Keep h0 h16 [u1, u3] := K8.wr W16 (Or.inl (List.mem_of_getElem? (i := 1) rfl))
  have N16 := Fr.snoc X16 N8 P13
  have V16 : Ary Z h16 u3 u4 (.array .byte) (8 : Int32) := Ary.set Ar14 q14 S14 N14z H14 rfl W16
  have F1_17 : Fld Z h8 u1 "com/example/afterlog/afterlog/ListValue" "size" "I" (.int 0) := P1.other W8 (Or.inr (slot_ne (Or.inl (tw hw 20 rfl)) (Or.inl (tw hw 40 rfl)) (by decide) (t := .int) (t' := .int) (by decide) (by decide)))
  have F2_18 : Fld Z h16 u1 "com/example/afterlog/afterlog/ListValue" "size" "I" (.int 0) := F1_17.other W16 (Or.inl (Ne.symm P10))
  obtain ⟨T19, X19, e19, st19⟩ := getF X16 hx hZ hown (host := "") (Or.inl (tw hw 19 rfl)) Via.refl e16 F2_18 (g := (mkF m 67 #[rv u1, rv w2, rv u2] [(.ref u1), (.ref u1)])) rfl rfl (hb hby d5_67)
  have F1_20 : Exa Z h8 u1 "com/example/afterlog/afterlog/ListValue" := P6.wr W8
  have F2_21 : Exa Z h16 u1 "com/example/afterlog/afterlog/ListValue" := F1_20.wr W16
  have F2_22 : Fld Z h16 u1 "com/example/afterlog/afterlog/ListValue" "elements" "[[B" (.ref u3) := F1_9.other W16 (Or.inl (Ne.symm P10))
  have F2_23 : Fld Z h16 u1 "com/example/afterlog/afterlog/ListValue" "head" "I" (.int e1x) := Fw8.other W16 (Or.inl (Ne.symm P10))
  obtain ⟨T24, h24, X24, e24, W24, st24⟩ := putF X19 hx hZ hown (host := "") (Or.inl (tw hw 19 rfl)) Via.refl e19 F2_18 F2_21 (Or.inl (tw hw 20 rfl)) (tw hw 2 rfl) (ty := .int) (by decide) rfl rfl (g := (mkF m 72 #[rv u1, rv w2, rv u2] [(.int 1), (.ref u1)])) rfl rfl (hb hby d5_72)
  have K24 : Keep h0 h24 [u1, u3] := K16.wr W24 (Or.inl (List.mem_of_getElem? (i := 0) rfl))
  have N24 := Fr.snoc X24 N16 P8
  have Fw24 : Fld Z h24 u1 "com/example/afterlog/afterlog/ListValue" "size" "I" (.int 1) := F2_18.same W24
  have F3_25 : Fld Z h24 u1 "com/example/afterlog/afterlog/ListValue" "elements" "[[B" (.ref u3) := F2_22.other W24 (Or.inr (slot_ne (Or.inl (tw hw 13 rfl)) (Or.inl (tw hw 20 rfl)) (by decide) (t := (.array (.array .byte))) (t' := .int) (by decide) (by decide)))
  have F3_26 : Exa Z h24 u1 "com/example/afterlog/afterlog/ListValue" := F2_21.wr W24
  have F3_27 : Fld Z h24 u1 "com/example/afterlog/afterlog/ListValue" "head" "I" (.int e1x) := F2_23.other W24 (Or.inr (slot_ne (Or.inl (tw hw 40 rfl)) (Or.inl (tw hw 20 rfl)) (by decide) (t := .int) (t' := .int) (by decide) (by decide)))
  have F3_28 : Ary Z h24 u3 u4 (.array .byte) (8 : Int32) := V16.other W24 P10
  have F2_29 : Exa Z h16 u3 "[[B" := F1_12.wr W16
  have F3_30 : Exa Z h24 u3 "[[B" := F2_29.wr W24
  obtain ⟨fs, hr, hrun, hended, hW, hsame⟩ := X24.leave (v := none) (fun _ => rfl)
  refine ⟨_, _, pre0 _ ?_, hrun, hended, _, _, rfl, ?_, ⟨_, rfl⟩, hW, hsame.mono (by decide) (by decide)⟩
  · show SF p e below s₁ (mkF m 0 #[rv u1, rv w2, rv u2] []) _
    refine XS.aloadN X0.here hx rfl (hb hby d5_0) rfl rfl ?_
    show SF p e below s₁ (mkF m 1 #[rv u1, rv w2, rv u2] [(.ref u1)]) _
    refine st1 _ ?_
    show SF p e below T1 (mkF m 4 #[rv u1, rv w2, rv u2] [(.int 0)]) _
    refine XS.aloadN X1.here hx rfl (hb hby d5_4) rfl rfl ?_
    show SF p e below T1 (mkF m 5 #[rv u1, rv w2, rv u2] [(.ref u1), (.int 0)]) _
    refine st2 _ ?_
    show SF p e below T2 (mkF m 8 #[rv u1, rv w2, rv u2] [(.ref u3), (.int 0)]) _
    refine X2.arraylength hx (by rw [e2]; exact Ar3.1) (State.isArrayOf_alike hZ.alike Ar3.2.1) (g := (mkF m 8 #[rv u1, rv w2, rv u2] [(.ref u3), (.int 0)])) rfl rfl (hb hby d5_8) _ ?_
    rw [len_of S3 N3z]
    show SF p e below T2 (mkF m 9 #[rv u1, rv w2, rv u2] [(.int 8), (.int 0)]) _
    refine XS.icmpYes X2.here hx rfl (pc0 := 9) (pc' := 16) rfl (hb hby d5_9) rfl (feq (by decide : ¬ ((0 : Int32) = (8 : Int32)))).2 (by decide) (by decide) ?_
    show SF p e below T2 (mkF m 16 #[rv u1, rv w2, rv u2] []) _
    refine XS.aloadN X2.here hx rfl (hb hby d5_16) rfl rfl ?_
    show SF p e below T2 (mkF m 17 #[rv u1, rv w2, rv u2] [(.ref w2)]) _
    refine st4 _ ?_
    show SF p e below T4 (mkF m 20 #[rv u1, rv w2, rv u2] [(.ref w2), (.ref w2)]) _
    refine Jvm.RoadKit.acmp (g := (mkF m 20 #[rv u1, rv w2, rv u2] [(.ref w2), (.ref w2)])) X4 hx rfl rfl rfl (pc0 := 20) (pc' := 23) (same := true) rfl (hb hby d5_20) rfl (decide_eq_true rfl) (by decide) (by decide) ?_
    show SF p e below T4 (mkF m 23 #[rv u1, rv w2, rv u2] []) _
    refine XS.aloadN X4.here hx rfl (hb hby d5_23) rfl rfl ?_
    show SF p e below T4 (mkF m 24 #[rv u1, rv w2, rv u2] [(.ref u1)]) _
    refine XS.aloadN X4.here hx rfl (hb hby d5_24) rfl rfl ?_
    show SF p e below T4 (mkF m 25 #[rv u1, rv w2, rv u2] [(.ref u1), (.ref u1)]) _
    refine XS.aloadN X4.here hx rfl (hb hby d5_25) rfl rfl ?_
    show SF p e below T4 (mkF m 26 #[rv u1, rv w2, rv u2] [(.ref u1), (.ref u1), (.ref u1)]) _
    refine st5 _ ?_
    show SF p e below T5 (mkF m 29 #[rv u1, rv w2, rv u2] [(.ref u3), (.ref u1), (.ref u1)]) _
    refine X5.arraylength hx (by rw [e5]; exact Ar6.1) (State.isArrayOf_alike hZ.alike Ar6.2.1) (g := (mkF m 29 #[rv u1, rv w2, rv u2] [(.ref u3), (.ref u1), (.ref u1)])) rfl rfl (hb hby d5_29) _ ?_
    rw [len_of S6 N6z]
    show SF p e below T5 (mkF m 30 #[rv u1, rv w2, rv u2] [(.int 8), (.ref u1), (.ref u1)]) _
    refine XS.iconst X5.here hx rfl (hb hby d5_30) ?_
    show SF p e below T5 (mkF m 31 #[rv u1, rv w2, rv u2] [(.int 1), (.int 8), (.ref u1), (.ref u1)]) _
    refine XS.isub X5.here hx rfl (hb hby d5_31) rfl ?_
    show SF p e below T5 (mkF m 32 #[rv u1, rv w2, rv u2] [(.int ((8 : Int32) - (1 : Int32))), (.ref u1), (.ref u1)]) _
    rw [show ((8 : Int32) - (1 : Int32)) = (7 : Int32) from by decide]
    show SF p e below T5 (mkF m 32 #[rv u1, rv w2, rv u2] [(.int 7), (.ref u1), (.ref u1)]) _
    refine st7.trans ?_
    show SF p e below T7 (mkF m 35 #[rv u1, rv w2, rv u2] [(.int e1x), (.ref u1)]) _
    refine st8 _ ?_
    show SF p e below T8 (mkF m 38 #[rv u1, rv w2, rv u2] []) _
    refine XS.aloadN X8.here hx rfl (hb hby d5_38) rfl rfl ?_
    show SF p e below T8 (mkF m 39 #[rv u1, rv w2, rv u2] [(.ref u1)]) _
    refine st10 _ ?_
    show SF p e below T10 (mkF m 42 #[rv u1, rv w2, rv u2] [(.ref u3)]) _
    refine XS.aloadN X10.here hx rfl (hb hby d5_42) rfl rfl ?_
    show SF p e below T10 (mkF m 43 #[rv u1, rv w2, rv u2] [(.ref u1), (.ref u3)]) _
    refine st11 _ ?_
    show SF p e below T11 (mkF m 46 #[rv u1, rv w2, rv u2] [(.int e1x), (.ref u3)]) _
    refine XS.aloadN X11.here hx rfl (hb hby d5_46) rfl rfl ?_
    show SF p e below T11 (mkF m 47 #[rv u1, rv w2, rv u2] [(.ref u2), (.int e1x), (.ref u3)]) _
    refine st16 _ ?_
    show SF p e below T16 (mkF m 48 #[rv u1, rv w2, rv u2] []) _
    refine XS.goto X16.here hx rfl (pc0 := 48) (pc' := 65) rfl (hb hby d5_48) (by decide) (by decide) ?_
    show SF p e below T16 (mkF m 65 #[rv u1, rv w2, rv u2] []) _
    refine XS.aloadN X16.here hx rfl (hb hby d5_65) rfl rfl ?_
    show SF p e below T16 (mkF m 66 #[rv u1, rv w2, rv u2] [(.ref u1)]) _
    refine XS.dup X16.here hx rfl (hb hby d5_66) rfl rfl ?_
    show SF p e below T16 (mkF m 67 #[rv u1, rv w2, rv u2] [(.ref u1), (.ref u1)]) _
    refine st19 _ ?_
    show SF p e below T19 (mkF m 70 #[rv u1, rv w2, rv u2] [(.int 0), (.ref u1)]) _
    refine XS.iconst X19.here hx rfl (hb hby d5_70) ?_
    show SF p e below T19 (mkF m 71 #[rv u1, rv w2, rv u2] [(.int 1), (.int 0), (.ref u1)]) _
    refine XS.iadd X19.here hx rfl (hb hby d5_71) rfl ?_
    show SF p e below T19 (mkF m 72 #[rv u1, rv w2, rv u2] [(.int ((0 : Int32) + (1 : Int32))), (.ref u1)]) _
    rw [show ((0 : Int32) + (1 : Int32)) = (1 : Int32) from by decide]
    show SF p e below T19 (mkF m 72 #[rv u1, rv w2, rv u2] [(.int 1), (.ref u1)]) _
    refine st24 _ ?_
    show SF p e below T24 (mkF m 75 #[rv u1, rv w2, rv u2] []) _
    exact X24.returnOut hx Bd.returns (hb hby d5_75) hr
  · show Q5_50 Z u1 w2 u2 u3 u4 h0 n0 _ T24.heap _
    rw [e24]
    exact ⟨e1x, bx_i6, rfl, N24, K24, Fw24, F3_25, F3_26, F3_27, F3_28, F3_30⟩
-- ListValueIsEmptyPinLaw.step 
def Q4_51 (Z : State) (u1 : Addr) (u2 : Int32) (u3 : Addr) (w2 : Addr) (u4 : Addr) (u5 : ClassId) (h0 : Heap) (n0 : Nat) (v : Option Value) (h : Heap) (L : List Loc) : Prop := ∃ e1x : Int32, (¬ e1x < (0 : Int32) ∧ e1x < (8 : Int32)) ∧ v = some (.int 1) ∧ Fr n0 L ∧ Keep h0 h [u1, u4] ∧ Exa Z h u1 "com/example/afterlog/afterlog/ListValue" ∧ Fld Z h u1 "com/example/afterlog/afterlog/ListValue" "size" "I" (.int 1) ∧ Fld Z h u1 "com/example/afterlog/afterlog/ListValue" "elements" "[[B" (.ref u4) ∧ Fld Z h u1 "com/example/afterlog/afterlog/ListValue" "head" "I" (.int e1x) ∧ Exa Z h u4 "[[B" ∧ Ary Z h u4 u5 (.array .byte) (8 : Int32)
set_option maxRecDepth 65536 in
set_option maxHeartbeats 40000000 in
theorem rm4_51 (l : Launch) (Z : State) (a0 : Array Value) (hw : HW Z a0) (ws : List Jvm.Cond) (u1 : Addr) (u2 : Int32) (u3 : Addr) (w2 : Addr) (u4 : Addr) (u5 : ClassId) (h0 : Heap) (n0 : Nat) (Z0 : n0 ≤ h0.size) (P1 : ¬ ((u2 &&& (2 : Int32)) = (0 : Int32))) (Sg2 : Sta Z Z.heap "com/example/afterlog/afterlog/ListValue$End" "HEAD" "Lcom/example/afterlog/afterlog/ListValue$End;" (.ref w2)) (P3 : Old Z n0 h0) (P4 : (u2 &&& (1 : Int32)) = (0 : Int32)) (P5 : Exa Z h0 u1 "com/example/afterlog/afterlog/ListValue") (P6 : Fld Z h0 u1 "com/example/afterlog/afterlog/ListValue" "size" "I" (.int 0)) (P7 : Fld Z h0 u1 "com/example/afterlog/afterlog/ListValue" "elements" "[[B" (.ref u4)) (P8 : Ary Z h0 u4 u5 (.array .byte) (8 : Int32)) (P9 : Fld Z h0 u1 "com/example/afterlog/afterlog/ListValue" "head" "I" (.int 0)) (P10 : n0 ≤ u1) (P11 : Exa Z h0 u4 "[[B") (P12 : u4 ≠ u1) (P13 : OvrA Z u5 .byte "[B") (P14 : Exa Z h0 u3 "[B") (P15 : n0 ≤ u4) :
    MF l Z (⟨"com/example/afterlog/afterlog/ListValueIsEmptyPinLaw", "step", "(Lcom/example/afterlog/afterlog/ListValue;II[B)I"⟩ : MethodName) (Jvm.Cond.code (⟨"com/example/afterlog/afterlog/ListValueIsEmptyPinLaw", "step", "(Lcom/example/afterlog/afterlog/ListValue;II[B)I"⟩ : MethodName) method_3_code 5 (some .int)) ws ({ frames := 2, cells := 0, slots := 0, locals := 29 } : Room) #[(.ref u1), (.int 0), (.int u2), (.ref u3)] h0 (Q4_51 Z u1 u2 u3 w2 u4 u5 h0 n0) := by
  refine MetFree.of_bodySF (plainFor_of_name pn_1) hisR ?_
  intro p e s m args below meth c s₁ Bd hml0 hP hK
  obtain ⟨rfl, hZ, hh⟩ := hP
  have hx := Bd.exec
  have hby := Bd.bytes
  have hml : c.maxLocals = 5 := hml0
  have hown : s.vm.findClass "com/example/afterlog/afterlog/ListValueIsEmptyPinLaw" = some m.cls := findClass_of_methodNamed Bd.named
  have hnm := (name_of_methodNamed Bd.named Bd.method).1
  have X0 : Stand p l e ({ frames := 2, cells := 0, slots := 0, locals := 29 } : Room) s m #[(.ref u1), (.int 0), (.int u2), (.ref u3)] below meth c s₁ [] 0 0 := Stand.of_body Bd
  have e0 : s₁.heap = h0 := by rw [← hh, Bd.state]; rfl
  have N0 := Fr.nil n0
  have pre0 : ∀ t, SF p e below s₁ (mkF m 0 #[rv u1, iv 0, iv u2, rv u3, .unset] []) t → SF p e below s₁ (entryFrame m #[(.ref u1), (.int 0), (.int u2), (.ref u3)] 5) t := fun t k => castTop (ef_4 m u1 (0 : Int32) u2 u3) k
  obtain ⟨T1, X1, e1, st1⟩ := getS2 X0 hx hZ hown (host := "") (Or.inl (tw hw 42 rfl)) Via.refl e0 (Sg2.ext P3.2) (g := (mkF m 6 #[rv u1, iv 0, iv u2, rv u3, .unset] [])) rfl (hb hby d4_6)
  obtain ⟨cq2, kq2, q2a, q2b, q2c⟩ := isOf hZ e1 P5
  obtain ⟨_, _, ⟨T2, L2, k2x, n2⟩, -, X2, ⟨Lc2, hQ2, l2, y2, z2⟩, st2⟩ := X1.virtualBack hx (y := (⟨"com/example/afterlog/afterlog/ListValue", "push", "(Lcom/example/afterlog/afterlog/ListValue$End;[B)V"⟩ : MethodName)) (z := (⟨"com/example/afterlog/afterlog/ListValue", "push", "(Lcom/example/afterlog/afterlog/ListValue$End;[B)V"⟩ : MethodName)) hown (mvT hZ (tw hw 28 rfl)) (mvT hZ (tw hw 29 rfl)) (notFace_of_selects (args := #[]) (mvT hZ (tw hw 31 rfl))) (mvT hZ (tw hw 31 rfl)) (mvT hZ (tw hw 30 rfl)) (by decide) (backOf (W := 0) (rm5_50 l Z a0 hw [] u1 w2 u3 u4 u5 h0 n0 Z0 P6 P7 P8 Sg2 P3 P5 P9 P10 P11 P12 P13 P14 P15) hZ (tw hw 32 rfl) (tw hw 3 rfl) (by decide) (by decide)) q2a q2c (g := (mkF m 42 #[rv u1, iv 0, iv u2, rv u3, rv w2] [(.ref u3), (.ref w2), (.ref u1)])) rfl (by rw [hml]; rfl) (Steps.refl _) (argsL := [(.ref w2), (.ref u3)]) (rest := []) (lenOf pd_3 rfl) rfl (by show 2 * 0 + _ ≤ _; exact Nat.le_of_eq rfl) (hb hby d4_42) (fun _ _ => ⟨rfl, e1, (by decide : 0 + 0 ≤ _), (by decide : 0 + 0 ≤ _)⟩)
  dsimp only [Pt.U, Pt.locs, Pt.cells, Pt.slots] at X2 l2 y2 z2 st2 hQ2
  subst l2 y2 z2
  obtain ⟨e1x, bx_i7, rfl, N2q, K2c, Fq2_0, Fq2_1, Fq2_2, Fq2_3, Fq2_4, Fq2_5⟩ := hQ2
  have K2 : Keep h0 T2.heap [u1, u4] := (Keep.refl h0 [u1, u4]).trans K2c (allS (Or.inl (List.mem_of_getElem? (i := 0) rfl)) (allS (Or.inl (List.mem_of_getElem? (i := 1) rfl)) all0))
  have N2 := Fr.app N0 N2q
  obtain ⟨fs, hr, hrun, hended, hW, hsame⟩ := X2.leave (v := some (.int 1)) (fun h => by rw [Bd.returns] at h; cases h)
  refine ⟨_, _, pre0 _ ?_, hrun, hended, _, _, rfl, ?_, ⟨_, rfl⟩, hW, hsame.mono (by decide) (by decide)⟩
  · show SF p e below s₁ (mkF m 0 #[rv u1, iv 0, iv u2, rv u3, .unset] []) _
    refine XS.iloadN X0.here hx rfl (hb hby d4_0) rfl ?_
    show SF p e below s₁ (mkF m 1 #[rv u1, iv 0, iv u2, rv u3, .unset] [(.int u2)]) _
    refine XS.iconst X0.here hx rfl (hb hby d4_1) ?_
    show SF p e below s₁ (mkF m 2 #[rv u1, iv 0, iv u2, rv u3, .unset] [(.int 2), (.int u2)]) _
    refine XS.iand X0.here hx rfl (hb hby d4_2) rfl ?_
    show SF p e below s₁ (mkF m 3 #[rv u1, iv 0, iv u2, rv u3, .unset] [(.int (u2 &&& (2 : Int32)))]) _
    refine XS.ifNo X0.here hx rfl (hb hby d4_3) rfl ((if0 _ _).trans (feq P1).1) ?_
    show SF p e below s₁ (mkF m 6 #[rv u1, iv 0, iv u2, rv u3, .unset] []) _
    refine st1 _ ?_
    show SF p e below T1 (mkF m 9 #[rv u1, iv 0, iv u2, rv u3, .unset] [(.ref w2)]) _
    refine XS.goto X1.here hx rfl (pc0 := 9) (pc' := 15) rfl (hb hby d4_9) (by decide) (by decide) ?_
    show SF p e below T1 (mkF m 15 #[rv u1, iv 0, iv u2, rv u3, .unset] [(.ref w2)]) _
    refine XS.astore X1.here hx rfl (hb hby d4_15) rfl rfl (l' := #[rv u1, iv 0, iv u2, rv u3, rv w2]) rfl ?_
    show SF p e below T1 (mkF m 17 #[rv u1, iv 0, iv u2, rv u3, rv w2] []) _
    refine XS.iloadN X1.here hx rfl (hb hby d4_17) rfl ?_
    show SF p e below T1 (mkF m 18 #[rv u1, iv 0, iv u2, rv u3, rv w2] [(.int u2)]) _
    refine XS.iconst X1.here hx rfl (hb hby d4_18) ?_
    show SF p e below T1 (mkF m 19 #[rv u1, iv 0, iv u2, rv u3, rv w2] [(.int 1), (.int u2)]) _
    refine XS.iand X1.here hx rfl (hb hby d4_19) rfl ?_
    show SF p e below T1 (mkF m 20 #[rv u1, iv 0, iv u2, rv u3, rv w2] [(.int (u2 &&& (1 : Int32)))]) _
    refine XS.ifYes X1.here hx rfl (pc0 := 20) (pc' := 38) rfl (hb hby d4_20) rfl ((if0 _ _).trans (teq P4).1) (by decide) (by decide) ?_
    show SF p e below T1 (mkF m 38 #[rv u1, iv 0, iv u2, rv u3, rv w2] []) _
    refine XS.aloadN X1.here hx rfl (hb hby d4_38) rfl rfl ?_
    show SF p e below T1 (mkF m 39 #[rv u1, iv 0, iv u2, rv u3, rv w2] [(.ref u1)]) _
    refine XS.aload X1.here hx rfl (hb hby d4_39) rfl rfl ?_
    show SF p e below T1 (mkF m 41 #[rv u1, iv 0, iv u2, rv u3, rv w2] [(.ref w2), (.ref u1)]) _
    refine XS.aloadN X1.here hx rfl (hb hby d4_41) rfl rfl ?_
    show SF p e below T1 (mkF m 42 #[rv u1, iv 0, iv u2, rv u3, rv w2] [(.ref u3), (.ref w2), (.ref u1)]) _
    refine st2.trans ?_
    show SF p e below T2 (mkF m 45 #[rv u1, iv 0, iv u2, rv u3, rv w2] []) _
    refine XS.iloadN X2.here hx rfl (hb hby d4_45) rfl ?_
    show SF p e below T2 (mkF m 46 #[rv u1, iv 0, iv u2, rv u3, rv w2] [(.int 0)]) _
    refine XS.iconst X2.here hx rfl (hb hby d4_46) ?_
    show SF p e below T2 (mkF m 47 #[rv u1, iv 0, iv u2, rv u3, rv w2] [(.int 1), (.int 0)]) _
    refine XS.iadd X2.here hx rfl (hb hby d4_47) rfl ?_
    show SF p e below T2 (mkF m 48 #[rv u1, iv 0, iv u2, rv u3, rv w2] [(.int ((0 : Int32) + (1 : Int32)))]) _
    rw [show ((0 : Int32) + (1 : Int32)) = (1 : Int32) from by decide]
    show SF p e below T2 (mkF m 48 #[rv u1, iv 0, iv u2, rv u3, rv w2] [(.int 1)]) _
    exact retI X2 hx Bd.returns (hb hby d4_48) hr
  · show Q4_51 Z u1 u2 u3 w2 u4 u5 h0 n0 _ T2.heap _
    exact ⟨e1x, bx_i7, rfl, N2, K2, Fq2_2, Fq2_0, Fq2_1, Fq2_3, Fq2_5, Fq2_4⟩
-- ListValueIsEmptyPinLaw.step 
def Q4_52 (Z : State) (u1 : Addr) (u2 : Int32) (u3 : Addr) (w2 : Addr) (u4 : Addr) (u5 : ClassId) (h0 : Heap) (n0 : Nat) (v : Option Value) (h : Heap) (L : List Loc) : Prop := ∃ e1x : Int32, (¬ e1x < (0 : Int32) ∧ e1x < (8 : Int32)) ∧ v = some (.int 1) ∧ Fr n0 L ∧ Keep h0 h [u1, u4] ∧ Exa Z h u1 "com/example/afterlog/afterlog/ListValue" ∧ Fld Z h u1 "com/example/afterlog/afterlog/ListValue" "size" "I" (.int 1) ∧ Fld Z h u1 "com/example/afterlog/afterlog/ListValue" "elements" "[[B" (.ref u4) ∧ Fld Z h u1 "com/example/afterlog/afterlog/ListValue" "head" "I" (.int e1x) ∧ Exa Z h u4 "[[B" ∧ Ary Z h u4 u5 (.array .byte) (8 : Int32)
set_option maxRecDepth 65536 in
set_option maxHeartbeats 40000000 in
theorem rm4_52 (l : Launch) (Z : State) (a0 : Array Value) (hw : HW Z a0) (ws : List Jvm.Cond) (u1 : Addr) (u2 : Int32) (u3 : Addr) (w2 : Addr) (u4 : Addr) (u5 : ClassId) (h0 : Heap) (n0 : Nat) (Z0 : n0 ≤ h0.size) (P1 : ¬ ((u2 &&& (2 : Int32)) = (0 : Int32))) (Sg2 : Sta Z Z.heap "com/example/afterlog/afterlog/ListValue$End" "HEAD" "Lcom/example/afterlog/afterlog/ListValue$End;" (.ref w2)) (P3 : Old Z n0 h0) (P4 : ¬ ((u2 &&& (1 : Int32)) = (0 : Int32))) (P5 : Exa Z h0 u1 "com/example/afterlog/afterlog/ListValue") (P6 : Fld Z h0 u1 "com/example/afterlog/afterlog/ListValue" "size" "I" (.int 0)) (P7 : Fld Z h0 u1 "com/example/afterlog/afterlog/ListValue" "elements" "[[B" (.ref u4)) (P8 : Ary Z h0 u4 u5 (.array .byte) (8 : Int32)) (P9 : Fld Z h0 u1 "com/example/afterlog/afterlog/ListValue" "head" "I" (.int 0)) (P10 : n0 ≤ u1) (P11 : Exa Z h0 u4 "[[B") (P12 : u4 ≠ u1) (P13 : OvrA Z u5 .byte "[B") (P14 : Exa Z h0 u3 "[B") (P15 : n0 ≤ u4) :
    MF l Z (⟨"com/example/afterlog/afterlog/ListValueIsEmptyPinLaw", "step", "(Lcom/example/afterlog/afterlog/ListValue;II[B)I"⟩ : MethodName) (Jvm.Cond.code (⟨"com/example/afterlog/afterlog/ListValueIsEmptyPinLaw", "step", "(Lcom/example/afterlog/afterlog/ListValue;II[B)I"⟩ : MethodName) method_3_code 5 (some .int)) ws ({ frames := 2, cells := 0, slots := 0, locals := 29 } : Room) #[(.ref u1), (.int 0), (.int u2), (.ref u3)] h0 (Q4_52 Z u1 u2 u3 w2 u4 u5 h0 n0) := by
  refine MetFree.of_bodySF (plainFor_of_name pn_1) hisR ?_
  intro p e s m args below meth c s₁ Bd hml0 hP hK
  obtain ⟨rfl, hZ, hh⟩ := hP
  have hx := Bd.exec
  have hby := Bd.bytes
  have hml : c.maxLocals = 5 := hml0
  have hown : s.vm.findClass "com/example/afterlog/afterlog/ListValueIsEmptyPinLaw" = some m.cls := findClass_of_methodNamed Bd.named
  have hnm := (name_of_methodNamed Bd.named Bd.method).1
  have X0 : Stand p l e ({ frames := 2, cells := 0, slots := 0, locals := 29 } : Room) s m #[(.ref u1), (.int 0), (.int u2), (.ref u3)] below meth c s₁ [] 0 0 := Stand.of_body Bd
  have e0 : s₁.heap = h0 := by rw [← hh, Bd.state]; rfl
  have N0 := Fr.nil n0
  have pre0 : ∀ t, SF p e below s₁ (mkF m 0 #[rv u1, iv 0, iv u2, rv u3, .unset] []) t → SF p e below s₁ (entryFrame m #[(.ref u1), (.int 0), (.int u2), (.ref u3)] 5) t := fun t k => castTop (ef_4 m u1 (0 : Int32) u2 u3) k
  obtain ⟨T1, X1, e1, st1⟩ := getS2 X0 hx hZ hown (host := "") (Or.inl (tw hw 42 rfl)) Via.refl e0 (Sg2.ext P3.2) (g := (mkF m 6 #[rv u1, iv 0, iv u2, rv u3, .unset] [])) rfl (hb hby d4_6)
  obtain ⟨cq2, kq2, q2a, q2b, q2c⟩ := isOf hZ e1 P5
  obtain ⟨_, _, ⟨T2, L2, k2x, n2⟩, -, X2, ⟨Lc2, hQ2, l2, y2, z2⟩, st2⟩ := X1.virtualBack hx (y := (⟨"com/example/afterlog/afterlog/ListValue", "push", "(Lcom/example/afterlog/afterlog/ListValue$End;[B)V"⟩ : MethodName)) (z := (⟨"com/example/afterlog/afterlog/ListValue", "push", "(Lcom/example/afterlog/afterlog/ListValue$End;[B)V"⟩ : MethodName)) hown (mvT hZ (tw hw 28 rfl)) (mvT hZ (tw hw 29 rfl)) (notFace_of_selects (args := #[]) (mvT hZ (tw hw 31 rfl))) (mvT hZ (tw hw 31 rfl)) (mvT hZ (tw hw 30 rfl)) (by decide) (backOf (W := 0) (rm5_50 l Z a0 hw [] u1 w2 u3 u4 u5 h0 n0 Z0 P6 P7 P8 Sg2 P3 P5 P9 P10 P11 P12 P13 P14 P15) hZ (tw hw 32 rfl) (tw hw 3 rfl) (by decide) (by decide)) q2a q2c (g := (mkF m 42 #[rv u1, iv 0, iv u2, rv u3, rv w2] [(.ref u3), (.ref w2), (.ref u1)])) rfl (by rw [hml]; rfl) (Steps.refl _) (argsL := [(.ref w2), (.ref u3)]) (rest := []) (lenOf pd_3 rfl) rfl (by show 2 * 0 + _ ≤ _; exact Nat.le_of_eq rfl) (hb hby d4_42) (fun _ _ => ⟨rfl, e1, (by decide : 0 + 0 ≤ _), (by decide : 0 + 0 ≤ _)⟩)
  dsimp only [Pt.U, Pt.locs, Pt.cells, Pt.slots] at X2 l2 y2 z2 st2 hQ2
  subst l2 y2 z2
  obtain ⟨e1x, bx_i7, rfl, N2q, K2c, Fq2_0, Fq2_1, Fq2_2, Fq2_3, Fq2_4, Fq2_5⟩ := hQ2
  have K2 : Keep h0 T2.heap [u1, u4] := (Keep.refl h0 [u1, u4]).trans K2c (allS (Or.inl (List.mem_of_getElem? (i := 0) rfl)) (allS (Or.inl (List.mem_of_getElem? (i := 1) rfl)) all0))
  have N2 := Fr.app N0 N2q
  obtain ⟨fs, hr, hrun, hended, hW, hsame⟩ := X2.leave (v := some (.int 1)) (fun h => by rw [Bd.returns] at h; cases h)
  refine ⟨_, _, pre0 _ ?_, hrun, hended, _, _, rfl, ?_, ⟨_, rfl⟩, hW, hsame.mono (by decide) (by decide)⟩
  · show SF p e below s₁ (mkF m 0 #[rv u1, iv 0, iv u2, rv u3, .unset] []) _
    refine XS.iloadN X0.here hx rfl (hb hby d4_0) rfl ?_
    show SF p e below s₁ (mkF m 1 #[rv u1, iv 0, iv u2, rv u3, .unset] [(.int u2)]) _
    refine XS.iconst X0.here hx rfl (hb hby d4_1) ?_
    show SF p e below s₁ (mkF m 2 #[rv u1, iv 0, iv u2, rv u3, .unset] [(.int 2), (.int u2)]) _
    refine XS.iand X0.here hx rfl (hb hby d4_2) rfl ?_
    show SF p e below s₁ (mkF m 3 #[rv u1, iv 0, iv u2, rv u3, .unset] [(.int (u2 &&& (2 : Int32)))]) _
    refine XS.ifNo X0.here hx rfl (hb hby d4_3) rfl ((if0 _ _).trans (feq P1).1) ?_
    show SF p e below s₁ (mkF m 6 #[rv u1, iv 0, iv u2, rv u3, .unset] []) _
    refine st1 _ ?_
    show SF p e below T1 (mkF m 9 #[rv u1, iv 0, iv u2, rv u3, .unset] [(.ref w2)]) _
    refine XS.goto X1.here hx rfl (pc0 := 9) (pc' := 15) rfl (hb hby d4_9) (by decide) (by decide) ?_
    show SF p e below T1 (mkF m 15 #[rv u1, iv 0, iv u2, rv u3, .unset] [(.ref w2)]) _
    refine XS.astore X1.here hx rfl (hb hby d4_15) rfl rfl (l' := #[rv u1, iv 0, iv u2, rv u3, rv w2]) rfl ?_
    show SF p e below T1 (mkF m 17 #[rv u1, iv 0, iv u2, rv u3, rv w2] []) _
    refine XS.iloadN X1.here hx rfl (hb hby d4_17) rfl ?_
    show SF p e below T1 (mkF m 18 #[rv u1, iv 0, iv u2, rv u3, rv w2] [(.int u2)]) _
    refine XS.iconst X1.here hx rfl (hb hby d4_18) ?_
    show SF p e below T1 (mkF m 19 #[rv u1, iv 0, iv u2, rv u3, rv w2] [(.int 1), (.int u2)]) _
    refine XS.iand X1.here hx rfl (hb hby d4_19) rfl ?_
    show SF p e below T1 (mkF m 20 #[rv u1, iv 0, iv u2, rv u3, rv w2] [(.int (u2 &&& (1 : Int32)))]) _
    refine XS.ifNo X1.here hx rfl (hb hby d4_20) rfl ((if0 _ _).trans (feq P4).1) ?_
    show SF p e below T1 (mkF m 23 #[rv u1, iv 0, iv u2, rv u3, rv w2] []) _
    refine XS.iloadN X1.here hx rfl (hb hby d4_23) rfl ?_
    show SF p e below T1 (mkF m 24 #[rv u1, iv 0, iv u2, rv u3, rv w2] [(.int 0)]) _
    refine XS.ifYes X1.here hx rfl (pc0 := 24) (pc' := 38) rfl (hb hby d4_24) rfl ((if0 _ _).trans (flt (by decide : ¬ ((0 : Int32) < (0 : Int32)))).2.2.2) (by decide) (by decide) ?_
    show SF p e below T1 (mkF m 38 #[rv u1, iv 0, iv u2, rv u3, rv w2] []) _
    refine XS.aloadN X1.here hx rfl (hb hby d4_38) rfl rfl ?_
    show SF p e below T1 (mkF m 39 #[rv u1, iv 0, iv u2, rv u3, rv w2] [(.ref u1)]) _
    refine XS.aload X1.here hx rfl (hb hby d4_39) rfl rfl ?_
    show SF p e below T1 (mkF m 41 #[rv u1, iv 0, iv u2, rv u3, rv w2] [(.ref w2), (.ref u1)]) _
    refine XS.aloadN X1.here hx rfl (hb hby d4_41) rfl rfl ?_
    show SF p e below T1 (mkF m 42 #[rv u1, iv 0, iv u2, rv u3, rv w2] [(.ref u3), (.ref w2), (.ref u1)]) _
    refine st2.trans ?_
    show SF p e below T2 (mkF m 45 #[rv u1, iv 0, iv u2, rv u3, rv w2] []) _
    refine XS.iloadN X2.here hx rfl (hb hby d4_45) rfl ?_
    show SF p e below T2 (mkF m 46 #[rv u1, iv 0, iv u2, rv u3, rv w2] [(.int 0)]) _
    refine XS.iconst X2.here hx rfl (hb hby d4_46) ?_
    show SF p e below T2 (mkF m 47 #[rv u1, iv 0, iv u2, rv u3, rv w2] [(.int 1), (.int 0)]) _
    refine XS.iadd X2.here hx rfl (hb hby d4_47) rfl ?_
    show SF p e below T2 (mkF m 48 #[rv u1, iv 0, iv u2, rv u3, rv w2] [(.int ((0 : Int32) + (1 : Int32)))]) _
    rw [show ((0 : Int32) + (1 : Int32)) = (1 : Int32) from by decide]
    show SF p e below T2 (mkF m 48 #[rv u1, iv 0, iv u2, rv u3, rv w2] [(.int 1)]) _
    exact retI X2 hx Bd.returns (hb hby d4_48) hr
  · show Q4_52 Z u1 u2 u3 w2 u4 u5 h0 n0 _ T2.heap _
    exact ⟨e1x, bx_i7, rfl, N2, K2, Fq2_2, Fq2_0, Fq2_1, Fq2_3, Fq2_5, Fq2_4⟩
theorem ef_6 (m : MethodId) (x0 : Int32) (x1 : Int32) (x2 : Int32) (x3 : Int32) : entryFrame m #[(.int x0), (.int x1), (.int x2), (.int x3)] maxLocals = mkF m 0 #[.val (.int x0), .val (.int x1), .val (.int x2), .val (.int x3), .unset, .unset, .unset, .unset] [] := by first | (simp [entryFrame, mkF, argsToLocals, Value.category, maxLocals]; done) | rfl
set_option maxRecDepth 65536 in
set_option maxHeartbeats 400000000 in
theorem rm0 (l : Launch) (Z : State) (a0 : Array Value) (hw : HW Z a0) (ws : List Jvm.Cond) (p0s : Int32) (p1s : Int32) (p2s : Int32) (p3s : Int32) (w1 : Addr) (w2 : Addr) (h0 : Heap) (n0 : Nat) (Z0 : n0 ≤ h0.size) (O0 : Old Z n0 h0) (Sg0 : Sta Z Z.heap "com/example/afterlog/afterlog/ListValue$End" "TAIL" "Lcom/example/afterlog/afterlog/ListValue$End;" (.ref w1)) (E_w1 : Exa Z Z.heap w1 "com/example/afterlog/afterlog/ListValue$End") (Sg2 : Sta Z Z.heap "com/example/afterlog/afterlog/ListValue$End" "HEAD" "Lcom/example/afterlog/afterlog/ListValue$End;" (.ref w2)) (E_w2 : Exa Z Z.heap w2 "com/example/afterlog/afterlog/ListValue$End") (F_w1_ordinal : Fld Z Z.heap w1 "java/lang/Enum" "ordinal" "I" (.int 1)) (F_w2_ordinal : Fld Z Z.heap w2 "java/lang/Enum" "ordinal" "I" (.int 0)) :
    MF l Z x (Jvm.Cond.code x code maxLocals ret) ws room_1 #[(.int p0s), (.int p1s), (.int p2s), (.int p3s)] h0 (fun v _ L => v = some (.int (1 : Int32)) ∧ Fr n0 L) := by
  refine MetFree.of_bodySF (plainFor_of_name pn_1) hisR ?_
  intro p e s m args below meth c s₁ Bd hml0 hP hK
  obtain ⟨rfl, hZ, hh⟩ := hP
  have hx := Bd.exec
  have hby := Bd.bytes
  have hml : c.maxLocals = 8 := hml0
  have hown : s.vm.findClass "com/example/afterlog/afterlog/ListValueIsEmptyPinLaw" = some m.cls := findClass_of_methodNamed Bd.named
  have hnm := (name_of_methodNamed Bd.named Bd.method).1
  have X0 : Stand p l e room_1 s m #[(.int p0s), (.int p1s), (.int p2s), (.int p3s)] below meth c s₁ [] 0 0 := Stand.of_body Bd
  have e0 : s₁.heap = h0 := by rw [← hh, Bd.state]; rfl
  have N0 := Fr.nil n0
  have pre0 : ∀ t, SF p e below s₁ (mkF m 0 #[iv p0s, iv p1s, iv p2s, iv p3s, .unset, .unset, .unset, .unset] []) t → SF p e below s₁ (entryFrame m #[(.int p0s), (.int p1s), (.int p2s), (.int p3s)] maxLocals) t := fun t k => castTop (ef_6 m p0s p1s p2s p3s) k
  have hre := Bd.returns
  have hlk : meth.locks = false := by first | assumption | exact BodyLoose.notSynchronized Bd | exact Body.notSynchronized Bd
  show Fine p e below s n0 _
  obtain ⟨T1, h1, k1, X1, e1, E1, A1, Ex1, st1⟩ := newPE X0 hx hZ (tw hw 0 rfl) e0 (g := (mkF m 1 #[iv p0s, iv p1s, iv p2s, iv p3s, .unset, .unset, .unset, .unset] [(.int 1)])) rfl (hb hby at_1) rfl (by decide) (cap := 1) (by decide) (by decide) (by decide) (by decide) (ad := "[B") rfl
  obtain ⟨b1, g1⟩ : ∃ z, z = h0.size := ⟨_, rfl⟩
  rw [← g1] at A1 st1 Ex1
  have V1 : Arv Z h1 b1 k1 .byte (1 : Int32) [(.int 0)] (.int (0 : Int32)) := (Arv.new A1 (by decide)).pad (pad_rep [] (.int (0 : Int32)) 1)
  obtain ⟨cl2, Ar2, q2, S2, N2z, H2, G2⟩ := id V1
  have hin2 : ¬ ((0 : Int32) < 0 ∨ cl2.slots.size ≤ ((0 : Int32)).toNatClampNeg) := inb_of S2 ⟨by decide, by decide⟩
  obtain ⟨T3, h3, X3, e3, W3, st3⟩ := stB X1 hx hZ e1 Ar2 (j := (0 : Int32)) hin2 (g := (mkF m 13 #[iv p0s, iv p1s, iv p2s, iv p3s, rv b1, .unset, .unset, .unset] [(.int ((p0s &&& (127 : Int32)).toInt8.toInt32)), (.int 0), (.ref b1)])) rfl rfl (hb hby at_13)
  have g_b1 : n0 ≤ b1 := Nat.le_trans Z0 (Nat.le_of_eq g1.symm)
  have N3 := Fr.snoc X3 N0 g_b1
  have V3 : Arv Z h3 b1 k1 .byte (1 : Int32) [(.int (nar .byte ((p0s &&& (127 : Int32)).toInt8.toInt32)))] (.int (0 : Int32)) := Arv.set Ar2 q2 S2 N2z H2 G2 (fits_nar_byte _) W3 0 rfl (Nat.le_of_ble_eq_true rfl)
  obtain ⟨T4, h4, X4, e4, E4, A4, D4, -, st4⟩ := newO X3 hx hZ hown (tw hw 1 rfl) (tw hw 2 rfl) (tw hw 3 rfl) e3 (g := (mkF m 14 #[iv p0s, iv p1s, iv p2s, iv p3s, rv b1, .unset, .unset, .unset] [])) rfl (hb hby at_14) (by decide) (by decide)
  obtain ⟨b2, g4⟩ : ∃ z, z = h3.size := ⟨_, rfl⟩
  rw [← g4] at A4 D4 st4
  have Fn5 : Fld Z h4 b2 "com/example/afterlog/afterlog/ListValue" "elements" "[[B" .null := D4 (Or.inl (tw hw 13 rfl)) (ty := (.array (.array .byte))) (by decide)
  have Fn6 : Fld Z h4 b2 "com/example/afterlog/afterlog/ListValue" "size" "I" (.int 0) := D4 (Or.inl (tw hw 20 rfl)) (ty := .int) (by decide)
  have Fn7 : Fld Z h4 b2 "com/example/afterlog/afterlog/ListValue" "head" "I" (.int 0) := D4 (Or.inl (tw hw 40 rfl)) (ty := .int) (by decide)
  have Z1 : n0 ≤ h1.size := Nat.le_trans Z0 E1.1
  have Z3 : n0 ≤ h3.size := Nat.le_trans Z1 (Keep.of_wr W3).1
  have g_b2 : n0 ≤ b2 := Nat.le_trans Z3 (Nat.le_of_eq g4.symm)
  have Z4 : n0 ≤ h4.size := Nat.le_trans Z3 E4.1
  obtain ⟨_, _, ⟨T8, L8, k8x, n8⟩, -, X8, ⟨Lc8, hQ8, l8, y8, z8⟩, st8⟩ := X4.specialBack hx (y := (⟨"com/example/afterlog/afterlog/ListValue", "<init>", "()V"⟩ : MethodName)) rfl hown (mvT hZ (tw hw 4 rfl)) (mvT hZ (tw hw 5 rfl)) (mvT hZ (tw hw 6 rfl)) (by decide) (backOf (W := 1) (rm1_1 l Z a0 hw [] b2 h4 n0 Z4 A4 Fn5 Fn6 Fn7 g_b2 A4.lt) hZ (tw hw 6 rfl) (tw hw 3 rfl) (by decide) (by decide)) (g := (mkF m 18 #[iv p0s, iv p1s, iv p2s, iv p3s, rv b1, .unset, .unset, .unset] [(.ref b2), (.ref b2)])) rfl (by rw [hml]; rfl) (Steps.refl _) (a := b2) (argsL := []) (rest := [(.ref b2)]) (lenOf pd_0 rfl) rfl (by show 2 * 0 + _ ≤ _; exact Nat.le_of_eq rfl) (hb hby at_18) (fun _ _ => ⟨rfl, e4, (by decide : 2 + 1 ≤ _), (by decide : 4 + 8 ≤ _)⟩)
  dsimp only [Pt.U, Pt.locs, Pt.cells, Pt.slots] at X8 l8 y8 z8 st8 hQ8
  subst l8 y8 z8
  obtain ⟨b4, k5, bz_b4, rfl, N8q, K8c, Fq8_0, Fq8_1, Fq8_2, Fq8_3, Fq8_4, Fq8_5, Fq8_6⟩ := hQ8
  have N8 := Fr.app N3 N8q
  have Z8 : n0 ≤ T8.heap.size := Nat.le_trans Z4 K8c.1
  obtain ⟨cq9, kq9, q9a, q9b, q9c⟩ := isOf hZ rfl Fq8_0
  obtain ⟨_, _, ⟨T9, L9, k9x, n9⟩, -, X9, ⟨Lc9, hQ9, l9, y9, z9⟩, st9⟩ := X8.virtualBack hx (y := (⟨"com/example/afterlog/afterlog/ListValue", "isEmpty", "()Z"⟩ : MethodName)) (z := (⟨"com/example/afterlog/afterlog/ListValue", "isEmpty", "()Z"⟩ : MethodName)) hown (mvT hZ (tw hw 14 rfl)) (mvT hZ (tw hw 15 rfl)) (notFace_of_selects (args := #[]) (mvT hZ (tw hw 17 rfl))) (mvT hZ (tw hw 17 rfl)) (mvT hZ (tw hw 16 rfl)) (by decide) (backOf (W := 0) (rm3_2 l Z a0 hw [] b2 T8.heap n0 Z8 Fq8_2) hZ (tw hw 18 rfl) (tw hw 3 rfl) (by decide) (by decide)) q9a q9c (g := (mkF m 25 #[iv p0s, iv p1s, iv p2s, iv p3s, rv b1, rv b2, .unset, .unset] [(.ref b2)])) rfl (by rw [hml]; rfl) (Steps.refl _) (argsL := []) (rest := []) (lenOf pd_1 rfl) rfl (by show 2 * 0 + _ ≤ _; exact Nat.le_of_eq rfl) (hb hby at_25) (fun _ _ => ⟨rfl, rfl, (by decide : 3 + 0 ≤ _), (by decide : 12 + 0 ≤ _)⟩)
  dsimp only [Pt.U, Pt.locs, Pt.cells, Pt.slots] at X9 l9 y9 z9 st9 hQ9
  subst l9 y9 z9
  obtain ⟨rfl, N9q, e9⟩ := hQ9
  have N9 := Fr.app N8 N9q
  have pre1 : ∀ t, SF p e below T9 (mkF m 40 #[iv p0s, iv p1s, iv p2s, iv p3s, rv b1, rv b2, iv 1, iv 0] [(.ref b1), (.int p0s), (.int 0), (.ref b2)]) t → SF p e below s₁ (mkF m 0 #[iv p0s, iv p1s, iv p2s, iv p3s, .unset, .unset, .unset, .unset] []) t := fun t k => by
    show SF p e below s₁ (mkF m 0 #[iv p0s, iv p1s, iv p2s, iv p3s, .unset, .unset, .unset, .unset] []) _
    refine XS.iconst X0.here hx rfl (hb hby at_0) ?_
    show SF p e below s₁ (mkF m 1 #[iv p0s, iv p1s, iv p2s, iv p3s, .unset, .unset, .unset, .unset] [(.int 1)]) _
    refine st1 _ ?_
    show SF p e below T1 (mkF m 3 #[iv p0s, iv p1s, iv p2s, iv p3s, .unset, .unset, .unset, .unset] [(.ref b1)]) _
    refine XS.astore X1.here hx rfl (hb hby at_3) rfl rfl (l' := #[iv p0s, iv p1s, iv p2s, iv p3s, rv b1, .unset, .unset, .unset]) rfl ?_
    show SF p e below T1 (mkF m 5 #[iv p0s, iv p1s, iv p2s, iv p3s, rv b1, .unset, .unset, .unset] []) _
    refine XS.aload X1.here hx rfl (hb hby at_5) rfl rfl ?_
    show SF p e below T1 (mkF m 7 #[iv p0s, iv p1s, iv p2s, iv p3s, rv b1, .unset, .unset, .unset] [(.ref b1)]) _
    refine XS.iconst X1.here hx rfl (hb hby at_7) ?_
    show SF p e below T1 (mkF m 8 #[iv p0s, iv p1s, iv p2s, iv p3s, rv b1, .unset, .unset, .unset] [(.int 0), (.ref b1)]) _
    refine XS.iloadN X1.here hx rfl (hb hby at_8) rfl ?_
    show SF p e below T1 (mkF m 9 #[iv p0s, iv p1s, iv p2s, iv p3s, rv b1, .unset, .unset, .unset] [(.int p0s), (.int 0), (.ref b1)]) _
    refine XS.bipush X1.here hx rfl (hb hby at_9) ?_
    show SF p e below T1 (mkF m 11 #[iv p0s, iv p1s, iv p2s, iv p3s, rv b1, .unset, .unset, .unset] [(.int 127), (.int p0s), (.int 0), (.ref b1)]) _
    refine XS.iand X1.here hx rfl (hb hby at_11) rfl ?_
    show SF p e below T1 (mkF m 12 #[iv p0s, iv p1s, iv p2s, iv p3s, rv b1, .unset, .unset, .unset] [(.int (p0s &&& (127 : Int32))), (.int 0), (.ref b1)]) _
    refine XS.i2b X1.here hx rfl (hb hby at_12) rfl ?_
    show SF p e below T1 (mkF m 13 #[iv p0s, iv p1s, iv p2s, iv p3s, rv b1, .unset, .unset, .unset] [(.int ((p0s &&& (127 : Int32)).toInt8.toInt32)), (.int 0), (.ref b1)]) _
    refine st3 _ ?_
    show SF p e below T3 (mkF m 14 #[iv p0s, iv p1s, iv p2s, iv p3s, rv b1, .unset, .unset, .unset] []) _
    refine st4 _ ?_
    show SF p e below T4 (mkF m 17 #[iv p0s, iv p1s, iv p2s, iv p3s, rv b1, .unset, .unset, .unset] [(.ref b2)]) _
    refine XS.dup X4.here hx rfl (hb hby at_17) rfl rfl ?_
    show SF p e below T4 (mkF m 18 #[iv p0s, iv p1s, iv p2s, iv p3s, rv b1, .unset, .unset, .unset] [(.ref b2), (.ref b2)]) _
    refine st8.trans ?_
    show SF p e below T8 (mkF m 21 #[iv p0s, iv p1s, iv p2s, iv p3s, rv b1, .unset, .unset, .unset] [(.ref b2)]) _
    refine XS.astore X8.here hx rfl (hb hby at_21) rfl rfl (l' := #[iv p0s, iv p1s, iv p2s, iv p3s, rv b1, rv b2, .unset, .unset]) rfl ?_
    show SF p e below T8 (mkF m 23 #[iv p0s, iv p1s, iv p2s, iv p3s, rv b1, rv b2, .unset, .unset] []) _
    refine XS.aload X8.here hx rfl (hb hby at_23) rfl rfl ?_
    show SF p e below T8 (mkF m 25 #[iv p0s, iv p1s, iv p2s, iv p3s, rv b1, rv b2, .unset, .unset] [(.ref b2)]) _
    refine st9.trans ?_
    show SF p e below T9 (mkF m 28 #[iv p0s, iv p1s, iv p2s, iv p3s, rv b1, rv b2, .unset, .unset] [(.int 1)]) _
    refine XS.istore X9.here hx rfl (hb hby at_28) rfl (l' := #[iv p0s, iv p1s, iv p2s, iv p3s, rv b1, rv b2, iv 1, .unset]) rfl ?_
    show SF p e below T9 (mkF m 30 #[iv p0s, iv p1s, iv p2s, iv p3s, rv b1, rv b2, iv 1, .unset] []) _
    refine XS.iconst X9.here hx rfl (hb hby at_30) ?_
    show SF p e below T9 (mkF m 31 #[iv p0s, iv p1s, iv p2s, iv p3s, rv b1, rv b2, iv 1, .unset] [(.int 0)]) _
    refine XS.istore X9.here hx rfl (hb hby at_31) rfl (l' := #[iv p0s, iv p1s, iv p2s, iv p3s, rv b1, rv b2, iv 1, iv 0]) rfl ?_
    show SF p e below T9 (mkF m 33 #[iv p0s, iv p1s, iv p2s, iv p3s, rv b1, rv b2, iv 1, iv 0] []) _
    refine XS.aload X9.here hx rfl (hb hby at_33) rfl rfl ?_
    show SF p e below T9 (mkF m 35 #[iv p0s, iv p1s, iv p2s, iv p3s, rv b1, rv b2, iv 1, iv 0] [(.ref b2)]) _
    refine XS.iload X9.here hx rfl (hb hby at_35) rfl ?_
    show SF p e below T9 (mkF m 37 #[iv p0s, iv p1s, iv p2s, iv p3s, rv b1, rv b2, iv 1, iv 0] [(.int 0), (.ref b2)]) _
    refine XS.iloadN X9.here hx rfl (hb hby at_37) rfl ?_
    show SF p e below T9 (mkF m 38 #[iv p0s, iv p1s, iv p2s, iv p3s, rv b1, rv b2, iv 1, iv 0] [(.int p0s), (.int 0), (.ref b2)]) _
    refine XS.aload X9.here hx rfl (hb hby at_38) rfl rfl ?_
    exact k
  by_cases hc1 : (p0s &&& (2 : Int32)) = (0 : Int32)
  · by_cases hc2 : (p0s &&& (1 : Int32)) = (0 : Int32)
    · have O1 : Old Z n0 h1 := O0.ext E1
      have O3 : Old Z n0 h3 := O1.wr W3 g_b1
      have O4 : Old Z n0 h4 := O3.ext E4
      have O8 : Old Z n0 T8.heap := O4.keep K8c (allS g_b2 all0)
      have F2_11 : Exa Z h3 b1 "[B" := Ex1.wr W3
      have F3_12 : Exa Z h4 b1 "[B" := F2_11.ext E4
      have F4_13 : Exa Z T8.heap b1 "[B" := F3_12.keep K8c
      have g_b4 : n0 ≤ b4 := Nat.le_trans Z4 bz_b4
      obtain ⟨_, _, ⟨T10, L10, k10x, n10⟩, -, X10, ⟨Lc10, hQ10, l10, y10, z10⟩, st10⟩ := Jvm.LawKit.callS X9 hx (y := (⟨"com/example/afterlog/afterlog/ListValueIsEmptyPinLaw", "step", "(Lcom/example/afterlog/afterlog/ListValue;II[B)I"⟩ : MethodName)) hown (mvT hZ (tw hw 21 rfl)) (mvT hZ (tw hw 22 rfl)) (mvT hZ (tw hw 23 rfl)) (mvT hZ (tw hw 24 rfl)) (by decide) (backOf (W := 0) (rm4_6 l Z a0 hw [] b2 p0s b1 w1 b4 k5 w2 T8.heap n0 Z8 hc1 Sg0 O8 hc2 Fq8_0 Fq8_2 Fq8_1 Fq8_4 Sg2 F_w1_ordinal F_w2_ordinal Fq8_3 Fq8_5 Fq8_6 F4_13 g_b4 (Nat.ne_of_lt (Nat.lt_of_lt_of_le A4.lt bz_b4)) g_b2) hZ (tw hw 24 rfl) (tw hw 23 rfl) (by decide) (by decide)) (g := (mkF m 40 #[iv p0s, iv p1s, iv p2s, iv p3s, rv b1, rv b2, iv 1, iv 0] [(.ref b1), (.int p0s), (.int 0), (.ref b2)])) rfl (by rw [hml]; rfl) (argsL := [(.ref b2), (.int 0), (.int p0s), (.ref b1)]) (rest := []) (lenOf pd_4 rfl) rfl (by show 2 * 0 + _ ≤ _; exact Nat.le_of_eq rfl) (hb hby at_40) (fun _ _ => ⟨rfl, e9, (by decide : 3 + 0 ≤ _), (by decide : 12 + 0 ≤ _)⟩)
      dsimp only [Pt.U, Pt.locs, Pt.cells, Pt.slots] at X10 l10 y10 z10 st10 hQ10
      subst l10 y10 z10
      obtain ⟨rfl, N10q, K10c, Fq10_0, Fq10_1, Fq10_2, Fq10_3, Fq10_4, Fq10_5⟩ := hQ10
      have N10 := Fr.app N9 N10q
      have Z10 : n0 ≤ T10.heap.size := Nat.le_trans Z8 K10c.1
      obtain ⟨cq14, kq14, q14a, q14b, q14c⟩ := isOf hZ rfl Fq10_2
      obtain ⟨_, _, ⟨T14, L14, k14x, n14⟩, -, X14, ⟨Lc14, hQ14, l14, y14, z14⟩, st14⟩ := X10.virtualBack hx (y := (⟨"com/example/afterlog/afterlog/ListValue", "isEmpty", "()Z"⟩ : MethodName)) (z := (⟨"com/example/afterlog/afterlog/ListValue", "isEmpty", "()Z"⟩ : MethodName)) hown (mvT hZ (tw hw 14 rfl)) (mvT hZ (tw hw 15 rfl)) (notFace_of_selects (args := #[]) (mvT hZ (tw hw 17 rfl))) (mvT hZ (tw hw 17 rfl)) (mvT hZ (tw hw 16 rfl)) (by decide) (backOf (W := 0) (rm3_7 l Z a0 hw [] b2 T10.heap n0 Z10 Fq10_3) hZ (tw hw 18 rfl) (tw hw 3 rfl) (by decide) (by decide)) q14a q14c (g := (mkF m 52 #[iv p0s, iv p1s, iv p2s, iv p3s, rv b1, rv b2, iv 1, iv 1] [(.ref b2)])) rfl (by rw [hml]; rfl) (Steps.refl _) (argsL := []) (rest := []) (lenOf pd_1 rfl) rfl (by show 2 * 0 + _ ≤ _; exact Nat.le_of_eq rfl) (hb hby at_52) (fun _ _ => ⟨rfl, rfl, (by decide : 3 + 0 ≤ _), (by decide : 12 + 0 ≤ _)⟩)
      dsimp only [Pt.U, Pt.locs, Pt.cells, Pt.slots] at X14 l14 y14 z14 st14 hQ14
      subst l14 y14 z14
      obtain ⟨rfl, N14q, e14⟩ := hQ14
      have N14 := Fr.app N10 N14q
      have F3_15 : Arv Z h4 b1 k1 .byte (1 : Int32) [(.int (nar .byte ((p0s &&& (127 : Int32)).toInt8.toInt32)))] (.int (0 : Int32)) := V3.ext E4
      have lt_b1_2 : b1 < h3.size := Nat.lt_of_lt_of_le A1.lt (Keep.of_wr W3).1
      have F4_16 : Arv Z T8.heap b1 k1 .byte (1 : Int32) [(.int (nar .byte ((p0s &&& (127 : Int32)).toInt8.toInt32)))] (.int (0 : Int32)) := F3_15.keep K8c (ninS (Nat.ne_of_lt (Nat.lt_of_lt_of_le lt_b1_2 (Nat.le_of_eq g4.symm))) nin0)
      have lt_b1_3 : b1 < h4.size := Nat.lt_of_lt_of_le lt_b1_2 E4.1
      have F5_17 : Arv Z T10.heap b1 k1 .byte (1 : Int32) [(.int (nar .byte ((p0s &&& (127 : Int32)).toInt8.toInt32)))] (.int (0 : Int32)) := F4_16.keep K10c (ninS (Nat.ne_of_lt (Nat.lt_of_lt_of_le lt_b1_3 bz_b4)) (ninS (Nat.ne_of_lt (Nat.lt_of_lt_of_le lt_b1_2 (Nat.le_of_eq g4.symm))) nin0))
      have F5_18 : Exa Z T10.heap b1 "[B" := F4_13.keep K10c
      have lt_b1_4 : b1 < T8.heap.size := Nat.lt_of_lt_of_le lt_b1_3 K8c.1
      have lt_b1_5 : b1 < T10.heap.size := Nat.lt_of_lt_of_le lt_b1_4 K10c.1
      have lt_b2_4 : b2 < T8.heap.size := Nat.lt_of_lt_of_le A4.lt K8c.1
      have lt_b2_5 : b2 < T10.heap.size := Nat.lt_of_lt_of_le lt_b2_4 K10c.1
      have lt_b4_5 : b4 < T10.heap.size := Nat.lt_of_lt_of_le Fq8_4.lt K10c.1
      have O10 : Old Z n0 T10.heap := O8.keep K10c (allS g_b4 (allS g_b2 all0))
      refine Fine.pre (fun t k => pre0 _ (pre1 _ (?_))) (pc_1 (o1 := b1) (o2 := b2) (kk1 := k1) (o3 := b4) (kk2 := k5) (ii1 := (0 : Int32)) X14 hx hZ hw hby hml hown hre hlk e14 N14 Z10 O10 Sg0 E_w1 Sg2 E_w2 F_w1_ordinal F_w2_ordinal F5_17 F5_18 Fq10_2 Fq10_4 Fq10_5 Fq10_3 Fq10_1 Fq8_6 Fq10_0 ⟨by decide, by decide⟩ g_b1 lt_b1_5 g_b2 lt_b2_5 g_b4 lt_b4_5 (Nat.ne_of_lt (Nat.lt_of_lt_of_le lt_b1_2 (Nat.le_of_eq g4.symm))) (Nat.ne_of_lt (Nat.lt_of_lt_of_le lt_b1_3 bz_b4)) (Nat.ne_of_lt (Nat.lt_of_lt_of_le A4.lt bz_b4)))
      show SF p e below T9 (mkF m 40 #[iv p0s, iv p1s, iv p2s, iv p3s, rv b1, rv b2, iv 1, iv 0] [(.ref b1), (.int p0s), (.int 0), (.ref b2)]) _
      refine st10 _ ?_
      show SF p e below T10 (mkF m 43 #[iv p0s, iv p1s, iv p2s, iv p3s, rv b1, rv b2, iv 1, iv 0] [(.int 1)]) _
      refine XS.istore X10.here hx rfl (hb hby at_43) rfl (l' := #[iv p0s, iv p1s, iv p2s, iv p3s, rv b1, rv b2, iv 1, iv 1]) rfl ?_
      show SF p e below T10 (mkF m 45 #[iv p0s, iv p1s, iv p2s, iv p3s, rv b1, rv b2, iv 1, iv 1] []) _
      refine XS.iload X10.here hx rfl (hb hby at_45) rfl ?_
      show SF p e below T10 (mkF m 47 #[iv p0s, iv p1s, iv p2s, iv p3s, rv b1, rv b2, iv 1, iv 1] [(.int 1)]) _
      refine XS.ifNo X10.here hx rfl (hb hby at_47) rfl ((if0 _ _).trans (feq (by decide : ¬ ((1 : Int32) = (0 : Int32)))).1) ?_
      show SF p e below T10 (mkF m 50 #[iv p0s, iv p1s, iv p2s, iv p3s, rv b1, rv b2, iv 1, iv 1] []) _
      refine XS.aload X10.here hx rfl (hb hby at_50) rfl rfl ?_
      show SF p e below T10 (mkF m 52 #[iv p0s, iv p1s, iv p2s, iv p3s, rv b1, rv b2, iv 1, iv 1] [(.ref b2)]) _
      refine st14.trans ?_
      show SF p e below T14 (mkF m 55 #[iv p0s, iv p1s, iv p2s, iv p3s, rv b1, rv b2, iv 1, iv 1] [(.int 0)]) _
      refine XS.iload X14.here hx rfl (hb hby at_55) rfl ?_
      show SF p e below T14 (mkF m 57 #[iv p0s, iv p1s, iv p2s, iv p3s, rv b1, rv b2, iv 1, iv 1] [(.int 1), (.int 0)]) _
      refine XS.ifYes X14.here hx rfl (pc0 := 57) (pc' := 64) rfl (hb hby at_57) rfl ((if0 _ _).trans (feq (by decide : ¬ ((1 : Int32) = (0 : Int32)))).2) (by decide) (by decide) ?_
      show SF p e below T14 (mkF m 64 #[iv p0s, iv p1s, iv p2s, iv p3s, rv b1, rv b2, iv 1, iv 1] [(.int 0)]) _
      refine XS.iconst X14.here hx rfl (hb hby at_64) ?_
      show SF p e below T14 (mkF m 65 #[iv p0s, iv p1s, iv p2s, iv p3s, rv b1, rv b2, iv 1, iv 1] [(.int 0), (.int 0)]) _
      refine XS.icmpNo X14.here hx rfl (hb hby at_65) rfl (teq (by decide : (0 : Int32) = (0 : Int32))).2 ?_
      show SF p e below T14 (mkF m 68 #[iv p0s, iv p1s, iv p2s, iv p3s, rv b1, rv b2, iv 1, iv 1] []) _
      refine XS.iconst X14.here hx rfl (hb hby at_68) ?_
      show SF p e below T14 (mkF m 69 #[iv p0s, iv p1s, iv p2s, iv p3s, rv b1, rv b2, iv 1, iv 1] [(.int 1)]) _
      refine XS.goto X14.here hx rfl (pc0 := 69) (pc' := 73) rfl (hb hby at_69) (by decide) (by decide) ?_
      show SF p e below T14 (mkF m 73 #[iv p0s, iv p1s, iv p2s, iv p3s, rv b1, rv b2, iv 1, iv 1] [(.int 1)]) _
      refine XS.istore X14.here hx rfl (hb hby at_73) rfl (l' := #[iv p0s, iv p1s, iv p2s, iv p3s, rv b1, rv b2, iv 1, iv 1]) rfl ?_
      exact k
    · have O1 : Old Z n0 h1 := O0.ext E1
      have O3 : Old Z n0 h3 := O1.wr W3 g_b1
      have O4 : Old Z n0 h4 := O3.ext E4
      have O8 : Old Z n0 T8.heap := O4.keep K8c (allS g_b2 all0)
      have F2_11 : Exa Z h3 b1 "[B" := Ex1.wr W3
      have F3_12 : Exa Z h4 b1 "[B" := F2_11.ext E4
      have F4_13 : Exa Z T8.heap b1 "[B" := F3_12.keep K8c
      have g_b4 : n0 ≤ b4 := Nat.le_trans Z4 bz_b4
      obtain ⟨_, _, ⟨T10, L10, k10x, n10⟩, -, X10, ⟨Lc10, hQ10, l10, y10, z10⟩, st10⟩ := Jvm.LawKit.callS X9 hx (y := (⟨"com/example/afterlog/afterlog/ListValueIsEmptyPinLaw", "step", "(Lcom/example/afterlog/afterlog/ListValue;II[B)I"⟩ : MethodName)) hown (mvT hZ (tw hw 21 rfl)) (mvT hZ (tw hw 22 rfl)) (mvT hZ (tw hw 23 rfl)) (mvT hZ (tw hw 24 rfl)) (by decide) (backOf (W := 0) (rm4_49 l Z a0 hw [] b2 p0s b1 w1 b4 k5 w2 T8.heap n0 Z8 hc1 Sg0 O8 hc2 Fq8_0 Fq8_2 Fq8_1 Fq8_4 Sg2 F_w1_ordinal F_w2_ordinal Fq8_3 Fq8_5 Fq8_6 F4_13 g_b4 (Nat.ne_of_lt (Nat.lt_of_lt_of_le A4.lt bz_b4)) g_b2) hZ (tw hw 24 rfl) (tw hw 23 rfl) (by decide) (by decide)) (g := (mkF m 40 #[iv p0s, iv p1s, iv p2s, iv p3s, rv b1, rv b2, iv 1, iv 0] [(.ref b1), (.int p0s), (.int 0), (.ref b2)])) rfl (by rw [hml]; rfl) (argsL := [(.ref b2), (.int 0), (.int p0s), (.ref b1)]) (rest := []) (lenOf pd_4 rfl) rfl (by show 2 * 0 + _ ≤ _; exact Nat.le_of_eq rfl) (hb hby at_40) (fun _ _ => ⟨rfl, e9, (by decide : 3 + 0 ≤ _), (by decide : 12 + 0 ≤ _)⟩)
      dsimp only [Pt.U, Pt.locs, Pt.cells, Pt.slots] at X10 l10 y10 z10 st10 hQ10
      subst l10 y10 z10
      obtain ⟨rfl, N10q, K10c, Fq10_0, Fq10_1, Fq10_2, Fq10_3, Fq10_4, Fq10_5⟩ := hQ10
      have N10 := Fr.app N9 N10q
      have Z10 : n0 ≤ T10.heap.size := Nat.le_trans Z8 K10c.1
      obtain ⟨cq14, kq14, q14a, q14b, q14c⟩ := isOf hZ rfl Fq10_2
      obtain ⟨_, _, ⟨T14, L14, k14x, n14⟩, -, X14, ⟨Lc14, hQ14, l14, y14, z14⟩, st14⟩ := X10.virtualBack hx (y := (⟨"com/example/afterlog/afterlog/ListValue", "isEmpty", "()Z"⟩ : MethodName)) (z := (⟨"com/example/afterlog/afterlog/ListValue", "isEmpty", "()Z"⟩ : MethodName)) hown (mvT hZ (tw hw 14 rfl)) (mvT hZ (tw hw 15 rfl)) (notFace_of_selects (args := #[]) (mvT hZ (tw hw 17 rfl))) (mvT hZ (tw hw 17 rfl)) (mvT hZ (tw hw 16 rfl)) (by decide) (backOf (W := 0) (rm3_7 l Z a0 hw [] b2 T10.heap n0 Z10 Fq10_3) hZ (tw hw 18 rfl) (tw hw 3 rfl) (by decide) (by decide)) q14a q14c (g := (mkF m 52 #[iv p0s, iv p1s, iv p2s, iv p3s, rv b1, rv b2, iv 1, iv 1] [(.ref b2)])) rfl (by rw [hml]; rfl) (Steps.refl _) (argsL := []) (rest := []) (lenOf pd_1 rfl) rfl (by show 2 * 0 + _ ≤ _; exact Nat.le_of_eq rfl) (hb hby at_52) (fun _ _ => ⟨rfl, rfl, (by decide : 3 + 0 ≤ _), (by decide : 12 + 0 ≤ _)⟩)
      dsimp only [Pt.U, Pt.locs, Pt.cells, Pt.slots] at X14 l14 y14 z14 st14 hQ14
      subst l14 y14 z14
      obtain ⟨rfl, N14q, e14⟩ := hQ14
      have N14 := Fr.app N10 N14q
      have F3_15 : Arv Z h4 b1 k1 .byte (1 : Int32) [(.int (nar .byte ((p0s &&& (127 : Int32)).toInt8.toInt32)))] (.int (0 : Int32)) := V3.ext E4
      have lt_b1_2 : b1 < h3.size := Nat.lt_of_lt_of_le A1.lt (Keep.of_wr W3).1
      have F4_16 : Arv Z T8.heap b1 k1 .byte (1 : Int32) [(.int (nar .byte ((p0s &&& (127 : Int32)).toInt8.toInt32)))] (.int (0 : Int32)) := F3_15.keep K8c (ninS (Nat.ne_of_lt (Nat.lt_of_lt_of_le lt_b1_2 (Nat.le_of_eq g4.symm))) nin0)
      have lt_b1_3 : b1 < h4.size := Nat.lt_of_lt_of_le lt_b1_2 E4.1
      have F5_17 : Arv Z T10.heap b1 k1 .byte (1 : Int32) [(.int (nar .byte ((p0s &&& (127 : Int32)).toInt8.toInt32)))] (.int (0 : Int32)) := F4_16.keep K10c (ninS (Nat.ne_of_lt (Nat.lt_of_lt_of_le lt_b1_3 bz_b4)) (ninS (Nat.ne_of_lt (Nat.lt_of_lt_of_le lt_b1_2 (Nat.le_of_eq g4.symm))) nin0))
      have F5_18 : Exa Z T10.heap b1 "[B" := F4_13.keep K10c
      have lt_b1_4 : b1 < T8.heap.size := Nat.lt_of_lt_of_le lt_b1_3 K8c.1
      have lt_b1_5 : b1 < T10.heap.size := Nat.lt_of_lt_of_le lt_b1_4 K10c.1
      have lt_b2_4 : b2 < T8.heap.size := Nat.lt_of_lt_of_le A4.lt K8c.1
      have lt_b2_5 : b2 < T10.heap.size := Nat.lt_of_lt_of_le lt_b2_4 K10c.1
      have lt_b4_5 : b4 < T10.heap.size := Nat.lt_of_lt_of_le Fq8_4.lt K10c.1
      have O10 : Old Z n0 T10.heap := O8.keep K10c (allS g_b4 (allS g_b2 all0))
      refine Fine.pre (fun t k => pre0 _ (pre1 _ (?_))) (pc_1 (o1 := b1) (o2 := b2) (kk1 := k1) (o3 := b4) (kk2 := k5) (ii1 := (0 : Int32)) X14 hx hZ hw hby hml hown hre hlk e14 N14 Z10 O10 Sg0 E_w1 Sg2 E_w2 F_w1_ordinal F_w2_ordinal F5_17 F5_18 Fq10_2 Fq10_4 Fq10_5 Fq10_3 Fq10_1 Fq8_6 Fq10_0 ⟨by decide, by decide⟩ g_b1 lt_b1_5 g_b2 lt_b2_5 g_b4 lt_b4_5 (Nat.ne_of_lt (Nat.lt_of_lt_of_le lt_b1_2 (Nat.le_of_eq g4.symm))) (Nat.ne_of_lt (Nat.lt_of_lt_of_le lt_b1_3 bz_b4)) (Nat.ne_of_lt (Nat.lt_of_lt_of_le A4.lt bz_b4)))
      show SF p e below T9 (mkF m 40 #[iv p0s, iv p1s, iv p2s, iv p3s, rv b1, rv b2, iv 1, iv 0] [(.ref b1), (.int p0s), (.int 0), (.ref b2)]) _
      refine st10 _ ?_
      show SF p e below T10 (mkF m 43 #[iv p0s, iv p1s, iv p2s, iv p3s, rv b1, rv b2, iv 1, iv 0] [(.int 1)]) _
      refine XS.istore X10.here hx rfl (hb hby at_43) rfl (l' := #[iv p0s, iv p1s, iv p2s, iv p3s, rv b1, rv b2, iv 1, iv 1]) rfl ?_
      show SF p e below T10 (mkF m 45 #[iv p0s, iv p1s, iv p2s, iv p3s, rv b1, rv b2, iv 1, iv 1] []) _
      refine XS.iload X10.here hx rfl (hb hby at_45) rfl ?_
      show SF p e below T10 (mkF m 47 #[iv p0s, iv p1s, iv p2s, iv p3s, rv b1, rv b2, iv 1, iv 1] [(.int 1)]) _
      refine XS.ifNo X10.here hx rfl (hb hby at_47) rfl ((if0 _ _).trans (feq (by decide : ¬ ((1 : Int32) = (0 : Int32)))).1) ?_
      show SF p e below T10 (mkF m 50 #[iv p0s, iv p1s, iv p2s, iv p3s, rv b1, rv b2, iv 1, iv 1] []) _
      refine XS.aload X10.here hx rfl (hb hby at_50) rfl rfl ?_
      show SF p e below T10 (mkF m 52 #[iv p0s, iv p1s, iv p2s, iv p3s, rv b1, rv b2, iv 1, iv 1] [(.ref b2)]) _
      refine st14.trans ?_
      show SF p e below T14 (mkF m 55 #[iv p0s, iv p1s, iv p2s, iv p3s, rv b1, rv b2, iv 1, iv 1] [(.int 0)]) _
      refine XS.iload X14.here hx rfl (hb hby at_55) rfl ?_
      show SF p e below T14 (mkF m 57 #[iv p0s, iv p1s, iv p2s, iv p3s, rv b1, rv b2, iv 1, iv 1] [(.int 1), (.int 0)]) _
      refine XS.ifYes X14.here hx rfl (pc0 := 57) (pc' := 64) rfl (hb hby at_57) rfl ((if0 _ _).trans (feq (by decide : ¬ ((1 : Int32) = (0 : Int32)))).2) (by decide) (by decide) ?_
      show SF p e below T14 (mkF m 64 #[iv p0s, iv p1s, iv p2s, iv p3s, rv b1, rv b2, iv 1, iv 1] [(.int 0)]) _
      refine XS.iconst X14.here hx rfl (hb hby at_64) ?_
      show SF p e below T14 (mkF m 65 #[iv p0s, iv p1s, iv p2s, iv p3s, rv b1, rv b2, iv 1, iv 1] [(.int 0), (.int 0)]) _
      refine XS.icmpNo X14.here hx rfl (hb hby at_65) rfl (teq (by decide : (0 : Int32) = (0 : Int32))).2 ?_
      show SF p e below T14 (mkF m 68 #[iv p0s, iv p1s, iv p2s, iv p3s, rv b1, rv b2, iv 1, iv 1] []) _
      refine XS.iconst X14.here hx rfl (hb hby at_68) ?_
      show SF p e below T14 (mkF m 69 #[iv p0s, iv p1s, iv p2s, iv p3s, rv b1, rv b2, iv 1, iv 1] [(.int 1)]) _
      refine XS.goto X14.here hx rfl (pc0 := 69) (pc' := 73) rfl (hb hby at_69) (by decide) (by decide) ?_
      show SF p e below T14 (mkF m 73 #[iv p0s, iv p1s, iv p2s, iv p3s, rv b1, rv b2, iv 1, iv 1] [(.int 1)]) _
      refine XS.istore X14.here hx rfl (hb hby at_73) rfl (l' := #[iv p0s, iv p1s, iv p2s, iv p3s, rv b1, rv b2, iv 1, iv 1]) rfl ?_
      exact k
  · by_cases hc2 : (p0s &&& (1 : Int32)) = (0 : Int32)
    · have O1 : Old Z n0 h1 := O0.ext E1
      have O3 : Old Z n0 h3 := O1.wr W3 g_b1
      have O4 : Old Z n0 h4 := O3.ext E4
      have O8 : Old Z n0 T8.heap := O4.keep K8c (allS g_b2 all0)
      have F2_11 : Exa Z h3 b1 "[B" := Ex1.wr W3
      have F3_12 : Exa Z h4 b1 "[B" := F2_11.ext E4
      have F4_13 : Exa Z T8.heap b1 "[B" := F3_12.keep K8c
      have g_b4 : n0 ≤ b4 := Nat.le_trans Z4 bz_b4
      obtain ⟨_, _, ⟨T10, L10, k10x, n10⟩, -, X10, ⟨Lc10, hQ10, l10, y10, z10⟩, st10⟩ := Jvm.LawKit.callS X9 hx (y := (⟨"com/example/afterlog/afterlog/ListValueIsEmptyPinLaw", "step", "(Lcom/example/afterlog/afterlog/ListValue;II[B)I"⟩ : MethodName)) hown (mvT hZ (tw hw 21 rfl)) (mvT hZ (tw hw 22 rfl)) (mvT hZ (tw hw 23 rfl)) (mvT hZ (tw hw 24 rfl)) (by decide) (backOf (W := 0) (rm4_51 l Z a0 hw [] b2 p0s b1 w2 b4 k5 T8.heap n0 Z8 hc1 Sg2 O8 hc2 Fq8_0 Fq8_2 Fq8_1 Fq8_4 Fq8_3 g_b2 Fq8_5 (Ne.symm (Nat.ne_of_lt (Nat.lt_of_lt_of_le A4.lt bz_b4))) Fq8_6 F4_13 g_b4) hZ (tw hw 24 rfl) (tw hw 23 rfl) (by decide) (by decide)) (g := (mkF m 40 #[iv p0s, iv p1s, iv p2s, iv p3s, rv b1, rv b2, iv 1, iv 0] [(.ref b1), (.int p0s), (.int 0), (.ref b2)])) rfl (by rw [hml]; rfl) (argsL := [(.ref b2), (.int 0), (.int p0s), (.ref b1)]) (rest := []) (lenOf pd_4 rfl) rfl (by show 2 * 0 + _ ≤ _; exact Nat.le_of_eq rfl) (hb hby at_40) (fun _ _ => ⟨rfl, e9, (by decide : 3 + 0 ≤ _), (by decide : 12 + 0 ≤ _)⟩)
      dsimp only [Pt.U, Pt.locs, Pt.cells, Pt.slots] at X10 l10 y10 z10 st10 hQ10
      subst l10 y10 z10
      obtain ⟨i8, bx_i8, rfl, N10q, K10c, Fq10_0, Fq10_1, Fq10_2, Fq10_3, Fq10_4, Fq10_5⟩ := hQ10
      have N10 := Fr.app N9 N10q
      have Z10 : n0 ≤ T10.heap.size := Nat.le_trans Z8 K10c.1
      obtain ⟨cq14, kq14, q14a, q14b, q14c⟩ := isOf hZ rfl Fq10_0
      obtain ⟨_, _, ⟨T14, L14, k14x, n14⟩, -, X14, ⟨Lc14, hQ14, l14, y14, z14⟩, st14⟩ := X10.virtualBack hx (y := (⟨"com/example/afterlog/afterlog/ListValue", "isEmpty", "()Z"⟩ : MethodName)) (z := (⟨"com/example/afterlog/afterlog/ListValue", "isEmpty", "()Z"⟩ : MethodName)) hown (mvT hZ (tw hw 14 rfl)) (mvT hZ (tw hw 15 rfl)) (notFace_of_selects (args := #[]) (mvT hZ (tw hw 17 rfl))) (mvT hZ (tw hw 17 rfl)) (mvT hZ (tw hw 16 rfl)) (by decide) (backOf (W := 0) (rm3_7 l Z a0 hw [] b2 T10.heap n0 Z10 Fq10_1) hZ (tw hw 18 rfl) (tw hw 3 rfl) (by decide) (by decide)) q14a q14c (g := (mkF m 52 #[iv p0s, iv p1s, iv p2s, iv p3s, rv b1, rv b2, iv 1, iv 1] [(.ref b2)])) rfl (by rw [hml]; rfl) (Steps.refl _) (argsL := []) (rest := []) (lenOf pd_1 rfl) rfl (by show 2 * 0 + _ ≤ _; exact Nat.le_of_eq rfl) (hb hby at_52) (fun _ _ => ⟨rfl, rfl, (by decide : 3 + 0 ≤ _), (by decide : 12 + 0 ≤ _)⟩)
      dsimp only [Pt.U, Pt.locs, Pt.cells, Pt.slots] at X14 l14 y14 z14 st14 hQ14
      subst l14 y14 z14
      obtain ⟨rfl, N14q, e14⟩ := hQ14
      have N14 := Fr.app N10 N14q
      have F3_15 : Arv Z h4 b1 k1 .byte (1 : Int32) [(.int (nar .byte ((p0s &&& (127 : Int32)).toInt8.toInt32)))] (.int (0 : Int32)) := V3.ext E4
      have lt_b1_2 : b1 < h3.size := Nat.lt_of_lt_of_le A1.lt (Keep.of_wr W3).1
      have F4_16 : Arv Z T8.heap b1 k1 .byte (1 : Int32) [(.int (nar .byte ((p0s &&& (127 : Int32)).toInt8.toInt32)))] (.int (0 : Int32)) := F3_15.keep K8c (ninS (Nat.ne_of_lt (Nat.lt_of_lt_of_le lt_b1_2 (Nat.le_of_eq g4.symm))) nin0)
      have lt_b1_3 : b1 < h4.size := Nat.lt_of_lt_of_le lt_b1_2 E4.1
      have F5_17 : Arv Z T10.heap b1 k1 .byte (1 : Int32) [(.int (nar .byte ((p0s &&& (127 : Int32)).toInt8.toInt32)))] (.int (0 : Int32)) := F4_16.keep K10c (ninS (Nat.ne_of_lt (Nat.lt_of_lt_of_le lt_b1_2 (Nat.le_of_eq g4.symm))) (ninS (Nat.ne_of_lt (Nat.lt_of_lt_of_le lt_b1_3 bz_b4)) nin0))
      have F5_18 : Exa Z T10.heap b1 "[B" := F4_13.keep K10c
      have lt_b1_4 : b1 < T8.heap.size := Nat.lt_of_lt_of_le lt_b1_3 K8c.1
      have lt_b1_5 : b1 < T10.heap.size := Nat.lt_of_lt_of_le lt_b1_4 K10c.1
      have lt_b2_4 : b2 < T8.heap.size := Nat.lt_of_lt_of_le A4.lt K8c.1
      have lt_b2_5 : b2 < T10.heap.size := Nat.lt_of_lt_of_le lt_b2_4 K10c.1
      have lt_b4_5 : b4 < T10.heap.size := Nat.lt_of_lt_of_le Fq8_4.lt K10c.1
      have O10 : Old Z n0 T10.heap := O8.keep K10c (allS g_b2 (allS g_b4 all0))
      refine Fine.pre (fun t k => pre0 _ (pre1 _ (?_))) (pc_1 (o1 := b1) (o2 := b2) (kk1 := k1) (o3 := b4) (kk2 := k5) (ii1 := i8) X14 hx hZ hw hby hml hown hre hlk e14 N14 Z10 O10 Sg0 E_w1 Sg2 E_w2 F_w1_ordinal F_w2_ordinal F5_17 F5_18 Fq10_0 Fq10_2 Fq10_3 Fq10_1 Fq10_5 Fq8_6 Fq10_4 bx_i8 g_b1 lt_b1_5 g_b2 lt_b2_5 g_b4 lt_b4_5 (Nat.ne_of_lt (Nat.lt_of_lt_of_le lt_b1_2 (Nat.le_of_eq g4.symm))) (Nat.ne_of_lt (Nat.lt_of_lt_of_le lt_b1_3 bz_b4)) (Nat.ne_of_lt (Nat.lt_of_lt_of_le A4.lt bz_b4)))
      show SF p e below T9 (mkF m 40 #[iv p0s, iv p1s, iv p2s, iv p3s, rv b1, rv b2, iv 1, iv 0] [(.ref b1), (.int p0s), (.int 0), (.ref b2)]) _
      refine st10 _ ?_
      show SF p e below T10 (mkF m 43 #[iv p0s, iv p1s, iv p2s, iv p3s, rv b1, rv b2, iv 1, iv 0] [(.int 1)]) _
      refine XS.istore X10.here hx rfl (hb hby at_43) rfl (l' := #[iv p0s, iv p1s, iv p2s, iv p3s, rv b1, rv b2, iv 1, iv 1]) rfl ?_
      show SF p e below T10 (mkF m 45 #[iv p0s, iv p1s, iv p2s, iv p3s, rv b1, rv b2, iv 1, iv 1] []) _
      refine XS.iload X10.here hx rfl (hb hby at_45) rfl ?_
      show SF p e below T10 (mkF m 47 #[iv p0s, iv p1s, iv p2s, iv p3s, rv b1, rv b2, iv 1, iv 1] [(.int 1)]) _
      refine XS.ifNo X10.here hx rfl (hb hby at_47) rfl ((if0 _ _).trans (feq (by decide : ¬ ((1 : Int32) = (0 : Int32)))).1) ?_
      show SF p e below T10 (mkF m 50 #[iv p0s, iv p1s, iv p2s, iv p3s, rv b1, rv b2, iv 1, iv 1] []) _
      refine XS.aload X10.here hx rfl (hb hby at_50) rfl rfl ?_
      show SF p e below T10 (mkF m 52 #[iv p0s, iv p1s, iv p2s, iv p3s, rv b1, rv b2, iv 1, iv 1] [(.ref b2)]) _
      refine st14.trans ?_
      show SF p e below T14 (mkF m 55 #[iv p0s, iv p1s, iv p2s, iv p3s, rv b1, rv b2, iv 1, iv 1] [(.int 0)]) _
      refine XS.iload X14.here hx rfl (hb hby at_55) rfl ?_
      show SF p e below T14 (mkF m 57 #[iv p0s, iv p1s, iv p2s, iv p3s, rv b1, rv b2, iv 1, iv 1] [(.int 1), (.int 0)]) _
      refine XS.ifYes X14.here hx rfl (pc0 := 57) (pc' := 64) rfl (hb hby at_57) rfl ((if0 _ _).trans (feq (by decide : ¬ ((1 : Int32) = (0 : Int32)))).2) (by decide) (by decide) ?_
      show SF p e below T14 (mkF m 64 #[iv p0s, iv p1s, iv p2s, iv p3s, rv b1, rv b2, iv 1, iv 1] [(.int 0)]) _
      refine XS.iconst X14.here hx rfl (hb hby at_64) ?_
      show SF p e below T14 (mkF m 65 #[iv p0s, iv p1s, iv p2s, iv p3s, rv b1, rv b2, iv 1, iv 1] [(.int 0), (.int 0)]) _
      refine XS.icmpNo X14.here hx rfl (hb hby at_65) rfl (teq (by decide : (0 : Int32) = (0 : Int32))).2 ?_
      show SF p e below T14 (mkF m 68 #[iv p0s, iv p1s, iv p2s, iv p3s, rv b1, rv b2, iv 1, iv 1] []) _
      refine XS.iconst X14.here hx rfl (hb hby at_68) ?_
      show SF p e below T14 (mkF m 69 #[iv p0s, iv p1s, iv p2s, iv p3s, rv b1, rv b2, iv 1, iv 1] [(.int 1)]) _
      refine XS.goto X14.here hx rfl (pc0 := 69) (pc' := 73) rfl (hb hby at_69) (by decide) (by decide) ?_
      show SF p e below T14 (mkF m 73 #[iv p0s, iv p1s, iv p2s, iv p3s, rv b1, rv b2, iv 1, iv 1] [(.int 1)]) _
      refine XS.istore X14.here hx rfl (hb hby at_73) rfl (l' := #[iv p0s, iv p1s, iv p2s, iv p3s, rv b1, rv b2, iv 1, iv 1]) rfl ?_
      exact k
    · have O1 : Old Z n0 h1 := O0.ext E1
      have O3 : Old Z n0 h3 := O1.wr W3 g_b1
      have O4 : Old Z n0 h4 := O3.ext E4
      have O8 : Old Z n0 T8.heap := O4.keep K8c (allS g_b2 all0)
      have F2_11 : Exa Z h3 b1 "[B" := Ex1.wr W3
      have F3_12 : Exa Z h4 b1 "[B" := F2_11.ext E4
      have F4_13 : Exa Z T8.heap b1 "[B" := F3_12.keep K8c
      have g_b4 : n0 ≤ b4 := Nat.le_trans Z4 bz_b4
      obtain ⟨_, _, ⟨T10, L10, k10x, n10⟩, -, X10, ⟨Lc10, hQ10, l10, y10, z10⟩, st10⟩ := Jvm.LawKit.callS X9 hx (y := (⟨"com/example/afterlog/afterlog/ListValueIsEmptyPinLaw", "step", "(Lcom/example/afterlog/afterlog/ListValue;II[B)I"⟩ : MethodName)) hown (mvT hZ (tw hw 21 rfl)) (mvT hZ (tw hw 22 rfl)) (mvT hZ (tw hw 23 rfl)) (mvT hZ (tw hw 24 rfl)) (by decide) (backOf (W := 0) (rm4_52 l Z a0 hw [] b2 p0s b1 w2 b4 k5 T8.heap n0 Z8 hc1 Sg2 O8 hc2 Fq8_0 Fq8_2 Fq8_1 Fq8_4 Fq8_3 g_b2 Fq8_5 (Ne.symm (Nat.ne_of_lt (Nat.lt_of_lt_of_le A4.lt bz_b4))) Fq8_6 F4_13 g_b4) hZ (tw hw 24 rfl) (tw hw 23 rfl) (by decide) (by decide)) (g := (mkF m 40 #[iv p0s, iv p1s, iv p2s, iv p3s, rv b1, rv b2, iv 1, iv 0] [(.ref b1), (.int p0s), (.int 0), (.ref b2)])) rfl (by rw [hml]; rfl) (argsL := [(.ref b2), (.int 0), (.int p0s), (.ref b1)]) (rest := []) (lenOf pd_4 rfl) rfl (by show 2 * 0 + _ ≤ _; exact Nat.le_of_eq rfl) (hb hby at_40) (fun _ _ => ⟨rfl, e9, (by decide : 3 + 0 ≤ _), (by decide : 12 + 0 ≤ _)⟩)
      dsimp only [Pt.U, Pt.locs, Pt.cells, Pt.slots] at X10 l10 y10 z10 st10 hQ10
      subst l10 y10 z10
      obtain ⟨i8, bx_i8, rfl, N10q, K10c, Fq10_0, Fq10_1, Fq10_2, Fq10_3, Fq10_4, Fq10_5⟩ := hQ10
      have N10 := Fr.app N9 N10q
      have Z10 : n0 ≤ T10.heap.size := Nat.le_trans Z8 K10c.1
      obtain ⟨cq14, kq14, q14a, q14b, q14c⟩ := isOf hZ rfl Fq10_0
      obtain ⟨_, _, ⟨T14, L14, k14x, n14⟩, -, X14, ⟨Lc14, hQ14, l14, y14, z14⟩, st14⟩ := X10.virtualBack hx (y := (⟨"com/example/afterlog/afterlog/ListValue", "isEmpty", "()Z"⟩ : MethodName)) (z := (⟨"com/example/afterlog/afterlog/ListValue", "isEmpty", "()Z"⟩ : MethodName)) hown (mvT hZ (tw hw 14 rfl)) (mvT hZ (tw hw 15 rfl)) (notFace_of_selects (args := #[]) (mvT hZ (tw hw 17 rfl))) (mvT hZ (tw hw 17 rfl)) (mvT hZ (tw hw 16 rfl)) (by decide) (backOf (W := 0) (rm3_7 l Z a0 hw [] b2 T10.heap n0 Z10 Fq10_1) hZ (tw hw 18 rfl) (tw hw 3 rfl) (by decide) (by decide)) q14a q14c (g := (mkF m 52 #[iv p0s, iv p1s, iv p2s, iv p3s, rv b1, rv b2, iv 1, iv 1] [(.ref b2)])) rfl (by rw [hml]; rfl) (Steps.refl _) (argsL := []) (rest := []) (lenOf pd_1 rfl) rfl (by show 2 * 0 + _ ≤ _; exact Nat.le_of_eq rfl) (hb hby at_52) (fun _ _ => ⟨rfl, rfl, (by decide : 3 + 0 ≤ _), (by decide : 12 + 0 ≤ _)⟩)
      dsimp only [Pt.U, Pt.locs, Pt.cells, Pt.slots] at X14 l14 y14 z14 st14 hQ14
      subst l14 y14 z14
      obtain ⟨rfl, N14q, e14⟩ := hQ14
      have N14 := Fr.app N10 N14q
      have F3_15 : Arv Z h4 b1 k1 .byte (1 : Int32) [(.int (nar .byte ((p0s &&& (127 : Int32)).toInt8.toInt32)))] (.int (0 : Int32)) := V3.ext E4
      have lt_b1_2 : b1 < h3.size := Nat.lt_of_lt_of_le A1.lt (Keep.of_wr W3).1
      have F4_16 : Arv Z T8.heap b1 k1 .byte (1 : Int32) [(.int (nar .byte ((p0s &&& (127 : Int32)).toInt8.toInt32)))] (.int (0 : Int32)) := F3_15.keep K8c (ninS (Nat.ne_of_lt (Nat.lt_of_lt_of_le lt_b1_2 (Nat.le_of_eq g4.symm))) nin0)
      have lt_b1_3 : b1 < h4.size := Nat.lt_of_lt_of_le lt_b1_2 E4.1
      have F5_17 : Arv Z T10.heap b1 k1 .byte (1 : Int32) [(.int (nar .byte ((p0s &&& (127 : Int32)).toInt8.toInt32)))] (.int (0 : Int32)) := F4_16.keep K10c (ninS (Nat.ne_of_lt (Nat.lt_of_lt_of_le lt_b1_2 (Nat.le_of_eq g4.symm))) (ninS (Nat.ne_of_lt (Nat.lt_of_lt_of_le lt_b1_3 bz_b4)) nin0))
      have F5_18 : Exa Z T10.heap b1 "[B" := F4_13.keep K10c
      have lt_b1_4 : b1 < T8.heap.size := Nat.lt_of_lt_of_le lt_b1_3 K8c.1
      have lt_b1_5 : b1 < T10.heap.size := Nat.lt_of_lt_of_le lt_b1_4 K10c.1
      have lt_b2_4 : b2 < T8.heap.size := Nat.lt_of_lt_of_le A4.lt K8c.1
      have lt_b2_5 : b2 < T10.heap.size := Nat.lt_of_lt_of_le lt_b2_4 K10c.1
      have lt_b4_5 : b4 < T10.heap.size := Nat.lt_of_lt_of_le Fq8_4.lt K10c.1
      have O10 : Old Z n0 T10.heap := O8.keep K10c (allS g_b2 (allS g_b4 all0))
      refine Fine.pre (fun t k => pre0 _ (pre1 _ (?_))) (pc_1 (o1 := b1) (o2 := b2) (kk1 := k1) (o3 := b4) (kk2 := k5) (ii1 := i8) X14 hx hZ hw hby hml hown hre hlk e14 N14 Z10 O10 Sg0 E_w1 Sg2 E_w2 F_w1_ordinal F_w2_ordinal F5_17 F5_18 Fq10_0 Fq10_2 Fq10_3 Fq10_1 Fq10_5 Fq8_6 Fq10_4 bx_i8 g_b1 lt_b1_5 g_b2 lt_b2_5 g_b4 lt_b4_5 (Nat.ne_of_lt (Nat.lt_of_lt_of_le lt_b1_2 (Nat.le_of_eq g4.symm))) (Nat.ne_of_lt (Nat.lt_of_lt_of_le lt_b1_3 bz_b4)) (Nat.ne_of_lt (Nat.lt_of_lt_of_le A4.lt bz_b4)))
      show SF p e below T9 (mkF m 40 #[iv p0s, iv p1s, iv p2s, iv p3s, rv b1, rv b2, iv 1, iv 0] [(.ref b1), (.int p0s), (.int 0), (.ref b2)]) _
      refine st10 _ ?_
      show SF p e below T10 (mkF m 43 #[iv p0s, iv p1s, iv p2s, iv p3s, rv b1, rv b2, iv 1, iv 0] [(.int 1)]) _
      refine XS.istore X10.here hx rfl (hb hby at_43) rfl (l' := #[iv p0s, iv p1s, iv p2s, iv p3s, rv b1, rv b2, iv 1, iv 1]) rfl ?_
      show SF p e below T10 (mkF m 45 #[iv p0s, iv p1s, iv p2s, iv p3s, rv b1, rv b2, iv 1, iv 1] []) _
      refine XS.iload X10.here hx rfl (hb hby at_45) rfl ?_
      show SF p e below T10 (mkF m 47 #[iv p0s, iv p1s, iv p2s, iv p3s, rv b1, rv b2, iv 1, iv 1] [(.int 1)]) _
      refine XS.ifNo X10.here hx rfl (hb hby at_47) rfl ((if0 _ _).trans (feq (by decide : ¬ ((1 : Int32) = (0 : Int32)))).1) ?_
      show SF p e below T10 (mkF m 50 #[iv p0s, iv p1s, iv p2s, iv p3s, rv b1, rv b2, iv 1, iv 1] []) _
      refine XS.aload X10.here hx rfl (hb hby at_50) rfl rfl ?_
      show SF p e below T10 (mkF m 52 #[iv p0s, iv p1s, iv p2s, iv p3s, rv b1, rv b2, iv 1, iv 1] [(.ref b2)]) _
      refine st14.trans ?_
      show SF p e below T14 (mkF m 55 #[iv p0s, iv p1s, iv p2s, iv p3s, rv b1, rv b2, iv 1, iv 1] [(.int 0)]) _
      refine XS.iload X14.here hx rfl (hb hby at_55) rfl ?_
      show SF p e below T14 (mkF m 57 #[iv p0s, iv p1s, iv p2s, iv p3s, rv b1, rv b2, iv 1, iv 1] [(.int 1), (.int 0)]) _
      refine XS.ifYes X14.here hx rfl (pc0 := 57) (pc' := 64) rfl (hb hby at_57) rfl ((if0 _ _).trans (feq (by decide : ¬ ((1 : Int32) = (0 : Int32)))).2) (by decide) (by decide) ?_
      show SF p e below T14 (mkF m 64 #[iv p0s, iv p1s, iv p2s, iv p3s, rv b1, rv b2, iv 1, iv 1] [(.int 0)]) _
      refine XS.iconst X14.here hx rfl (hb hby at_64) ?_
      show SF p e below T14 (mkF m 65 #[iv p0s, iv p1s, iv p2s, iv p3s, rv b1, rv b2, iv 1, iv 1] [(.int 0), (.int 0)]) _
      refine XS.icmpNo X14.here hx rfl (hb hby at_65) rfl (teq (by decide : (0 : Int32) = (0 : Int32))).2 ?_
      show SF p e below T14 (mkF m 68 #[iv p0s, iv p1s, iv p2s, iv p3s, rv b1, rv b2, iv 1, iv 1] []) _
      refine XS.iconst X14.here hx rfl (hb hby at_68) ?_
      show SF p e below T14 (mkF m 69 #[iv p0s, iv p1s, iv p2s, iv p3s, rv b1, rv b2, iv 1, iv 1] [(.int 1)]) _
      refine XS.goto X14.here hx rfl (pc0 := 69) (pc' := 73) rfl (hb hby at_69) (by decide) (by decide) ?_
      show SF p e below T14 (mkF m 73 #[iv p0s, iv p1s, iv p2s, iv p3s, rv b1, rv b2, iv 1, iv 1] [(.int 1)]) _
      refine XS.istore X14.here hx rfl (hb hby at_73) rfl (l' := #[iv p0s, iv p1s, iv p2s, iv p3s, rv b1, rv b2, iv 1, iv 1]) rfl ?_
      exact k
set_option maxRecDepth 65536 in
set_option maxHeartbeats 40000000 in
theorem comes_1 {Post : Tables → Env → Array Value → State → Outcome → State → Prop} (hpost : ∀ tb e args s v u, (limb_1_1.after args s (.returned v) u = true ∧ limb_1_2.after args s (.returned v) u = true ∧ True) → FrameEnd s (.returned v) u (Jvm.fieldLocs frame_1_writes args s ++ Jvm.arrayLocs frame_1_arrays args s ++ Jvm.staticLocs frame_1_statics s) 16 128 → Post tb e args s (.returned v) u) :
    ArmFor flags0 classFile x code maxLocals ret World_1 tables_1 room_1 Calls_1 rest_1 Pre_1 Post := by
  intro l hfl _ _ p e ha hc hk s m args below hf hA hF happ hP
  obtain ⟨hcalls, hrest, hpre⟩ := hP
  obtain ⟨-, -, -, hnamed, -, -, -, hat⟩ := (Spec.applies_iff hf).mp happ
  obtain ⟨hg, hn⟩ := and_e (Cond.before_iff.mp (show (Jvm.Cond.and given_1 narrow_1).before args s = true from hpre))
  obtain ⟨gv0, gr0⟩ := and_e hg
  obtain ⟨gv1, gr1⟩ := and_e gr0
  obtain ⟨gv2, gr2⟩ := and_e gr1
  obtain ⟨gv3, gr3⟩ := and_e gr2
  have gv4 := gr3
  obtain ⟨av0, av1, av2, av3, rfl⟩ : ∃ av0 av1 av2 av3 : Value, args = #[av0, av1, av2, av3] := by
    have hs : args.size = 4 := by simpa [Cond.value, given_1] using gv0
    obtain ⟨L⟩ := args
    match L, hs with
    | [av0, av1, av2, av3], _ => exact ⟨av0, av1, av2, av3, rfl⟩
  have hw := fun d (hd : d ∈ tables_1) => atoms_spec (ws := Jvm.Cond.code x code maxLocals ret :: tables_1) hat d (List.mem_cons_of_mem _ hd)
  have hfit : Fit s := fun {y c} hc i hi => by
    obtain ⟨ha, rfl⟩ := Array.getElem?_eq_some_iff.mp hc
    have q := List.all_eq_true.mp ((Array.all_eq_true_iff_forall_mem.mp hF) _ (Array.getElem_mem ha)) i (List.mem_range.mpr hi)
    simpa [Array.getElem?_eq_getElem hi] using q
  obtain ⟨p0s, ei0⟩ := is_v gv1
  obtain rfl : av0 = (.int p0s) := Option.some.inj ei0
  obtain ⟨p1s, ei1⟩ := is_v gv2
  obtain rfl : av1 = (.int p1s) := Option.some.inj ei1
  obtain ⟨p2s, ei2⟩ := is_v gv3
  obtain rfl : av2 = (.int p2s) := Option.some.inj ei2
  obtain ⟨p3s, ei3⟩ := is_v gv4
  obtain rfl : av3 = (.int p3s) := Option.some.inj ei3
  obtain ⟨nv0, nr0⟩ := and_e hn
  obtain ⟨nv1, nr1⟩ := and_e nr0
  obtain ⟨nv2, nr2⟩ := and_e nr1
  obtain ⟨w1, ev_w1⟩ := exa_v nv0
  have Sg0 : Sta s s.heap "com/example/afterlog/afterlog/ListValue$End" "TAIL" "Lcom/example/afterlog/afterlog/ListValue$End;" (.ref w1) := Sta.start ev_w1 (Or.inr ⟨(tw hw 26 rfl), (tw hw 27 rfl)⟩)
  have E_w1 : Exa s s.heap w1 "com/example/afterlog/afterlog/ListValue$End" := Exa.start ev_w1 nv0
  obtain ⟨w2, ev_w2⟩ := exa_v nv1
  have Sg2 : Sta s s.heap "com/example/afterlog/afterlog/ListValue$End" "HEAD" "Lcom/example/afterlog/afterlog/ListValue$End;" (.ref w2) := Sta.start ev_w2 (Or.inr ⟨(tw hw 26 rfl), (tw hw 34 rfl)⟩)
  have E_w2 : Exa s s.heap w2 "com/example/afterlog/afterlog/ListValue$End" := Exa.start ev_w2 nv1
  have F_w1_ordinal : Fld s s.heap w1 "java/lang/Enum" "ordinal" "I" (.int 1) := Fld.start ((fld_at ev_w1).symm.trans (own_eqv nv2 (Term.int_eval (1))))
  have F_w2_ordinal : Fld s s.heap w2 "java/lang/Enum" "ordinal" "I" (.int 0) := Fld.start ((fld_at ev_w2).symm.trans (own_eqv nr2 (Term.int_eval (0))))
  have O0 := Old.start s
  obtain ⟨n, o, h1, h2, h3, _, L, rfl, ⟨rfl, N⟩, hq⟩ := rm0 l s _ hw tables_1 p0s p1s p2s p3s w1 w2 s.heap s.heap.size (Nat.le_refl _) O0 Sg0 E_w1 Sg2 E_w2 F_w1_ordinal F_w2_ordinal p e ha hc hk s m _ below hf ((Spec.applies_iff_loose hf).mp happ).1 ⟨rfl, State.Warmed39.refl s, rfl⟩ trivial
  refine ⟨n, _, h1, h2, h3, hpost _ _ _ _ _ _ ⟨Cond.after_iff.mpr rfl, Cond.after_iff.mpr (eq_i res_at (Term.int_eval (1)) rfl), trivial⟩ ⟨hq.1, hq.2.1, (hq.2.2.sift fun y hy => Or.inr (N y hy)).mono (by decide) (by decide)⟩⟩
theorem main_1_1 : Claimed_1_1 := comes_1 fun _ _ _ _ _ _ h hF => ⟨h.1, hF⟩
theorem main_1_2 : Claimed_1_2 := comes_1 fun _ _ _ _ _ _ h hF => ⟨h.2.1, hF⟩
end Jvm.Pilot.@@N@@
namespace Jvm.Pilot.@@N@@
open Jvm Jvm.ClassFile Sem Op Lib Jvm.Free Jvm.Stand Jvm.Pilot.@@N@@.Jvm.D
/-! MADE BY PROGRAM (witnessworld.py) out of the Statement's table words and the real class files: 13 classes; the members and pool entries that the words name. The judged class is class 1, her method 1. -/
namespace start1
open Jvm.ClassFile
def u (s : String) : CpInfo := .utf8 (stringToUtf16 s)
/-- a pool by its gaps: so many unusable entries, then the entry; so many at the end -/
def gap : Nat → List CpInfo → List CpInfo
  | 0, r => r
  | n + 1, r => .unusable :: gap n r
def poolList (es : List (Nat × CpInfo)) (last : Nat) : List CpInfo := es.foldr (fun e r => gap e.1 (e.2 :: r)) (gap last [])
def pool (es : List (Nat × CpInfo)) (last : Nat) : Array CpInfo := ⟨poolList es last⟩
def fileOf (pool : Array CpInfo) (this : Nat) (attrs : Array Attribute := #[]) (ms : Array MethodInfo := #[]) (fl : Nat := 33) (sup : Nat := 0) (ifs : Array Nat := #[]) (fds : Array FieldInfo := #[]) : ClassFile where
  minorVersion := 0
  majorVersion := 65
  constantPool := pool
  accessFlags := fl
  thisClass := this
  superClass := sup
  interfaces := ifs
  fields := fds
  methods := ms
  attributes := attrs
def plain (name : String) (sup : Option ClassId) : Class where
  name := name
  kind := .ordinary
  loader := none
  accessFlags := 33
  super := sup
  interfaces := #[]
  cf := none
  fields := #[]
  methods := #[]
  instanceTypes := #[]
  staticTypes := #[]
  resolved := #[]
  callSites := []
  init := .initialized
  statics := none
  mirror := none

def pool0 : Array CpInfo := pool [(5, u "<init>"), (0, u "()V"), (1, .class_ 10), (1, u "java/lang/Object")] 113

def k0c0 : Code := { maxStack := 0, maxLocals := 1, code := object_method_1_code, exceptionTable := #[], attributes := #[] }
def k0m0 : Method := { name := "<init>", desc := "()V", sig := { parameters := [], returnType := none }, accessFlags := 1, code := some k0c0 }
/-- java/lang/Object -/
def k0 : Class := { plain "java/lang/Object" none with
  accessFlags := 33
  interfaces := #[]
  cf := some (fileOf pool0 8 #[] #[{ accessFlags := 1, nameIndex := 5, descriptorIndex := 6, attributes := #[] }] 33 0 #[] #[])
  fields := #[]
  methods := #[k0m0]
  instanceTypes := #[]
  staticTypes := #[]
  resolved := Array.replicate 124 none
  statics := none }

def pool1 : Array CpInfo := pool [(2, .class_ 4), (0, .nameAndType 5 6), (0, u "java/lang/Object"), (0, u "<init>"), (0, u "()V"), (0, .class_ 8), (0, u "com/example/afterlog/afterlog/ListValue"), (0, .methodref 7 3), (0, .methodref 7 11), (0, .nameAndType 12 13), (0, u "isEmpty"), (0, u "()Z"), (0, .methodref 15 16), (0, .class_ 17), (0, .nameAndType 18 19), (0, u "com/example/afterlog/afterlog/ListValueIsEmptyPinLaw"), (0, u "step"), (0, u "(Lcom/example/afterlog/afterlog/ListValue;II[B)I"), (0, .fieldref 21 22), (0, .class_ 23), (0, .nameAndType 24 25), (0, u "com/example/afterlog/afterlog/ListValue$End"), (0, u "HEAD"), (0, u "Lcom/example/afterlog/afterlog/ListValue$End;"), (0, .fieldref 21 27), (0, .nameAndType 28 25), (0, u "TAIL"), (0, .methodref 7 30), (0, .nameAndType 31 32), (0, u "pop"), (0, u "(Lcom/example/afterlog/afterlog/ListValue$End;)[B"), (0, .methodref 7 34), (0, .nameAndType 35 36), (0, u "push"), (0, u "(Lcom/example/afterlog/afterlog/ListValue$End;[B)V"), (2, u "law"), (0, u "(IIII)Z")] 7

def k1m0 : Method := { name := "<init>", desc := "()V", sig := { parameters := [], returnType := none }, accessFlags := 1, code := none }
def k1c1 : Code := { maxStack := 4, maxLocals := 8, code := code, exceptionTable := #[], attributes := #[] }
def k1m1 : Method := { name := "law", desc := "(IIII)Z", sig := { parameters := [.int, .int, .int, .int], returnType := some .boolean }, accessFlags := 9, code := some k1c1 }
def k1c2 : Code := { maxStack := 3, maxLocals := 5, code := method_3_code, exceptionTable := #[], attributes := #[] }
def k1m2 : Method := { name := "step", desc := "(Lcom/example/afterlog/afterlog/ListValue;II[B)I", sig := { parameters := [(.object "com/example/afterlog/afterlog/ListValue"), .int, .int, (.array .byte)], returnType := some .int }, accessFlags := 10, code := some k1c2 }
/-- com/example/afterlog/afterlog/ListValueIsEmptyPinLaw -/
def k1 : Class := { plain "com/example/afterlog/afterlog/ListValueIsEmptyPinLaw" (some 0) with
  accessFlags := 49
  interfaces := #[]
  cf := some (fileOf pool1 15 #[] #[{ accessFlags := 1, nameIndex := 5, descriptorIndex := 6, attributes := #[] }, { accessFlags := 9, nameIndex := 39, descriptorIndex := 40, attributes := #[] }, { accessFlags := 10, nameIndex := 18, descriptorIndex := 19, attributes := #[] }] 49 2 #[] #[])
  fields := #[]
  methods := #[k1m0, k1m1, k1m2]
  instanceTypes := #[]
  staticTypes := #[]
  resolved := Array.replicate 48 none
  statics := none }

def pool2 : Array CpInfo := pool [(3, .methodref 4 5), (0, .class_ 6), (0, .nameAndType 7 8), (0, u "java/lang/Object"), (0, u "<init>"), (0, u "()V"), (0, .class_ 10), (0, u "com/example/afterlog/afterlog/ListValue"), (0, .class_ 12), (0, u "[B"), (0, .fieldref 9 14), (0, .nameAndType 15 16), (0, u "elements"), (0, u "[[B"), (0, .fieldref 9 18), (0, .nameAndType 19 20), (0, u "size"), (0, u "I"), (6, .fieldref 9 28), (0, .nameAndType 29 20), (0, u "head"), (0, .methodref 9 31), (0, .nameAndType 32 33), (0, u "slot"), (0, u "(I)I"), (3, .fieldref 38 39), (0, .class_ 40), (0, .nameAndType 41 42), (0, u "com/example/afterlog/afterlog/ListValue$End"), (0, u "HEAD"), (0, u "Lcom/example/afterlog/afterlog/ListValue$End;"), (27, u "FIRST_CAPACITY"), (2, u "MAX_CAPACITY"), (3, u "isEmpty"), (0, u "()Z"), (5, u "push"), (0, u "(Lcom/example/afterlog/afterlog/ListValue$End;[B)V"), (0, u "pop"), (0, u "(Lcom/example/afterlog/afterlog/ListValue$End;)[B")] 5

def k2c0 : Code := { maxStack := 2, maxLocals := 1, code := prog_24_method_1_code, exceptionTable := #[], attributes := #[] }
def k2m0 : Method := { name := "<init>", desc := "()V", sig := { parameters := [], returnType := none }, accessFlags := 0, code := some k2c0 }
def k2c1 : Code := { maxStack := 1, maxLocals := 1, code := prog_24_method_3_code, exceptionTable := #[], attributes := #[] }
def k2m1 : Method := { name := "isEmpty", desc := "()Z", sig := { parameters := [], returnType := some .boolean }, accessFlags := 0, code := some k2c1 }
def k2c2 : Code := { maxStack := 4, maxLocals := 3, code := prog_24_method_6_code, exceptionTable := #[], attributes := #[] }
def k2m2 : Method := { name := "push", desc := "(Lcom/example/afterlog/afterlog/ListValue$End;[B)V", sig := { parameters := [(.object "com/example/afterlog/afterlog/ListValue$End"), (.array .byte)], returnType := none }, accessFlags := 0, code := some k2c2 }
def k2c3 : Code := { maxStack := 3, maxLocals := 4, code := prog_24_method_7_code, exceptionTable := #[], attributes := #[] }
def k2m3 : Method := { name := "pop", desc := "(Lcom/example/afterlog/afterlog/ListValue$End;)[B", sig := { parameters := [(.object "com/example/afterlog/afterlog/ListValue$End")], returnType := some (.array .byte) }, accessFlags := 0, code := some k2c3 }
def k2c4 : Code := { maxStack := 2, maxLocals := 3, code := prog_24_method_8_code, exceptionTable := #[], attributes := #[] }
def k2m4 : Method := { name := "slot", desc := "(I)I", sig := { parameters := [.int], returnType := some .int }, accessFlags := 2, code := some k2c4 }
/-- com/example/afterlog/afterlog/ListValue -/
def k2 : Class := { plain "com/example/afterlog/afterlog/ListValue" (some 0) with
  accessFlags := 48
  interfaces := #[]
  cf := some (fileOf pool2 9 #[.nestMembers #[38]] #[{ accessFlags := 0, nameIndex := 7, descriptorIndex := 8, attributes := #[] }, { accessFlags := 0, nameIndex := 77, descriptorIndex := 78, attributes := #[] }, { accessFlags := 0, nameIndex := 84, descriptorIndex := 85, attributes := #[] }, { accessFlags := 0, nameIndex := 86, descriptorIndex := 87, attributes := #[] }, { accessFlags := 2, nameIndex := 32, descriptorIndex := 33, attributes := #[] }] 48 4 #[] #[{ accessFlags := 26, nameIndex := 70, descriptorIndex := 20, attributes := #[] }, { accessFlags := 26, nameIndex := 73, descriptorIndex := 20, attributes := #[] }, { accessFlags := 2, nameIndex := 15, descriptorIndex := 16, attributes := #[] }, { accessFlags := 2, nameIndex := 29, descriptorIndex := 20, attributes := #[] }, { accessFlags := 2, nameIndex := 19, descriptorIndex := 20, attributes := #[] }])
  fields := #[{ name := "FIRST_CAPACITY", type := .int, accessFlags := 26, slot := 0, constantValue := 0 }, { name := "MAX_CAPACITY", type := .int, accessFlags := 26, slot := 1, constantValue := 0 }, { name := "elements", type := (.array (.array .byte)), accessFlags := 2, slot := 0, constantValue := 0 }, { name := "head", type := .int, accessFlags := 2, slot := 1, constantValue := 0 }, { name := "size", type := .int, accessFlags := 2, slot := 2, constantValue := 0 }]
  methods := #[k2m0, k2m1, k2m2, k2m3, k2m4]
  instanceTypes := #[(.array (.array .byte)), .int, .int]
  staticTypes := #[.int, .int]
  resolved := Array.replicate 93 none
  statics := none }

def pool3 : Array CpInfo := pool [(1, .class_ 2), (0, u "java/lang/constant/Constable"), (0, .class_ 4), (0, u "java/lang/Object")] 6

/-- java/lang/constant/Constable -/
def k3 : Class := { plain "java/lang/constant/Constable" (some 0) with
  accessFlags := 1537
  interfaces := #[]
  cf := some (fileOf pool3 1 #[] #[] 1537 3 #[] #[])
  fields := #[]
  methods := #[]
  instanceTypes := #[]
  staticTypes := #[]
  resolved := Array.replicate 11 none
  statics := none }

def pool4 : Array CpInfo := pool [(1, .class_ 2), (0, u "java/lang/Comparable"), (0, .class_ 4), (0, u "java/lang/Object")] 7

/-- java/lang/Comparable -/
def k4 : Class := { plain "java/lang/Comparable" (some 0) with
  accessFlags := 1537
  interfaces := #[]
  cf := some (fileOf pool4 1 #[] #[] 1537 3 #[] #[])
  fields := #[]
  methods := #[]
  instanceTypes := #[]
  staticTypes := #[]
  resolved := Array.replicate 12 none
  statics := none }

def pool5 : Array CpInfo := pool [(1, .class_ 2), (0, u "java/io/Serializable"), (0, .class_ 4), (0, u "java/lang/Object")] 2

/-- java/io/Serializable -/
def k5 : Class := { plain "java/io/Serializable" (some 0) with
  accessFlags := 1537
  interfaces := #[]
  cf := some (fileOf pool5 1 #[] #[] 1537 3 #[] #[])
  fields := #[]
  methods := #[]
  instanceTypes := #[]
  staticTypes := #[]
  resolved := Array.replicate 7 none
  statics := none }

def pool6 : Array CpInfo := pool [(2, .class_ 4), (1, u "java/lang/Enum"), (0, u "name"), (0, u "Ljava/lang/String;"), (2, u "ordinal"), (0, u "I"), (1, .class_ 14), (1, u "java/lang/Object"), (4, u "hash"), (86, .class_ 108), (1, u "java/lang/Enum$EnumDesc"), (2, .class_ 112), (0, u "java/lang/constant/Constable"), (0, .class_ 114), (0, u "java/lang/Comparable"), (0, .class_ 116), (0, u "java/io/Serializable")] 87

/-- java/lang/Enum -/
def k6 : Class := { plain "java/lang/Enum" (some 0) with
  accessFlags := 1057
  interfaces := #[3, 4, 5]
  cf := some (fileOf pool6 2 #[.nestMembers #[106]] #[] 1057 12 #[111, 113, 115] #[{ accessFlags := 18, nameIndex := 5, descriptorIndex := 6, attributes := #[] }, { accessFlags := 18, nameIndex := 9, descriptorIndex := 10, attributes := #[] }, { accessFlags := 2, nameIndex := 19, descriptorIndex := 10, attributes := #[] }])
  fields := #[{ name := "name", type := (.object "java/lang/String"), accessFlags := 18, slot := 0, constantValue := 0 }, { name := "ordinal", type := .int, accessFlags := 18, slot := 1, constantValue := 0 }, { name := "hash", type := .int, accessFlags := 2, slot := 2, constantValue := 0 }]
  methods := #[]
  instanceTypes := #[(.object "java/lang/String"), .int, .int]
  staticTypes := #[]
  resolved := Array.replicate 204 none
  statics := none }

def pool7 : Array CpInfo := pool [(1, .class_ 2), (0, u "com/example/afterlog/afterlog/ListValue$End"), (2, u "HEAD"), (0, u "Lcom/example/afterlog/afterlog/ListValue$End;"), (2, u "TAIL"), (2, u "$VALUES"), (0, u "[Lcom/example/afterlog/afterlog/ListValue$End;"), (6, .class_ 22), (1, u "java/lang/Enum"), (25, .class_ 49), (0, u "com/example/afterlog/afterlog/ListValue")] 2

/-- com/example/afterlog/afterlog/ListValue$End -/
def k7 : Class := { plain "com/example/afterlog/afterlog/ListValue$End" (some 6) with
  accessFlags := 16432
  interfaces := #[]
  cf := some (fileOf pool7 1 #[.nestHost 48] #[] 16432 20 #[] #[{ accessFlags := 16409, nameIndex := 5, descriptorIndex := 6, attributes := #[] }, { accessFlags := 16409, nameIndex := 9, descriptorIndex := 6, attributes := #[] }, { accessFlags := 4122, nameIndex := 12, descriptorIndex := 13, attributes := #[] }])
  fields := #[{ name := "HEAD", type := (.object "com/example/afterlog/afterlog/ListValue$End"), accessFlags := 16409, slot := 0, constantValue := 0 }, { name := "TAIL", type := (.object "com/example/afterlog/afterlog/ListValue$End"), accessFlags := 16409, slot := 1, constantValue := 0 }, { name := "$VALUES", type := (.array (.object "com/example/afterlog/afterlog/ListValue$End")), accessFlags := 4122, slot := 2, constantValue := 0 }]
  methods := #[]
  instanceTypes := #[(.object "java/lang/String"), .int, .int]
  staticTypes := #[(.object "com/example/afterlog/afterlog/ListValue$End"), (.object "com/example/afterlog/afterlog/ListValue$End"), (.array (.object "com/example/afterlog/afterlog/ListValue$End"))]
  resolved := Array.replicate 52 none
  statics := some 0 }

def pool8 : Array CpInfo := pool [(1, u "java/lang/Cloneable"), (0, .class_ 1), (0, u "java/lang/Object"), (0, .class_ 3)] 3

/-- java/lang/Cloneable -/
def k8 : Class := { plain "java/lang/Cloneable" (some 0) with
  accessFlags := 1537
  interfaces := #[]
  cf := some (fileOf pool8 2 #[] #[] 1537 4 #[] #[])
  fields := #[]
  methods := #[]
  instanceTypes := #[]
  staticTypes := #[]
  resolved := Array.replicate 8 none
  statics := none }

/-- the primitive byte -/
def k9 : Class := { plain "byte" none with kind := .primitive 'B', accessFlags := 0x411 }
/-- [B -/
def k10 : Class := { plain "[B" (some 0) with kind := .array 9 .byte, interfaces := #[8, 5], accessFlags := 1041 }

/-- the primitive int -/
def k11 : Class := { plain "int" none with kind := .primitive 'I', accessFlags := 0x411 }
/-- [I -/
def k12 : Class := { plain "[I" (some 0) with kind := .array 11 .int, interfaces := #[8, 5], accessFlags := 1041 }

def heap : Heap := #[{ cls := 7, slots := #[.ref 2, .ref 1, .null], vm := .statics 7 },
  { cls := 7, slots := #[.null, .int 1, .int 0], vm := .none },
  { cls := 7, slots := #[.null, .int 0, .int 0], vm := .none }]
/-- [[B (laid by hand: the program lays no class of arrays of arrays) -/
def k13 : Class := { plain "[[B" (some 0) with kind := .array 10 (.array .byte), interfaces := #[8, 5], accessFlags := 1041 }
def classes : Array Class := #[k0, k1, k2, k3, k4, k5, k6, k7, k8, k9, k10, k11, k12, k13]
def interned : List (Array UInt16 × Addr) := []
def slotsUsed : Nat := 9
def theMethod : MethodId := ⟨1, 1⟩
def args0 : Array Value := #[.int 5, .int 6, .int 7, .int 8]
def aboutOver (below : List Frame) : State where
  vm := { classes := classes, interned := interned.toArray }
  heap := heap
  slotsUsed := slotsUsed
  threads := #[{ frames := .invoking theMethod args0 :: below }]
def below0 : List Frame := [.native { method := ⟨0, 0⟩, args := #[] }]
def about1 : State := aboutOver below0
def p0 : Program := .bare "" "" ""
def e0 : Env := launch0.env 0 0 0
theorem w_frames : about1.frames = Frame.invoking theMethod args0 :: below0 := rfl
set_option maxRecDepth 65536 in
theorem w_args : argsFit about1.vm theMethod args0 = true := by decide +kernel
set_option maxRecDepth 65536 in
theorem w_heap : heapFits about1 = true := by decide +kernel
set_option maxRecDepth 65536 in
theorem w_runnable : about1.curStatus? = some .runnable := by decide +kernel
set_option maxRecDepth 65536 in
theorem w_alone : about1.alone = true := by decide +kernel
set_option maxRecDepth 65536 in
theorem w_named : about1.methodNamed? x = some theMethod := by decide +kernel
set_option maxRecDepth 65536 in
theorem w_hears : about1.hears theMethod below0 = true := by decide +kernel
set_option maxRecDepth 65536 in
theorem w_ripe : about1.ripe theMethod args0 below0 = true := by decide +kernel
theorem w_running : about1.status = .running := rfl
set_option maxRecDepth 65536 in
theorem w_room : about1.hasRoom e0.platform room_1 = true :=
  launch0.hasRoom_least _ room_1 (by decide +kernel) (by decide +kernel) (by decide +kernel) (by decide +kernel) (by decide +kernel) (by decide +kernel)
theorem allAtoms_all (ts : List Jvm.Cond) (a : Array Jvm.Value) (st : Jvm.State) : (allAtoms ts).before a st = ts.all (fun c => c.before a st) := by
  induction ts with
  | nil => rfl
  | cons c t ih =>
    show (Jvm.Cond.and c (allAtoms t)).before a st = _
    rw [Jvm.Cond.before_and, ih, List.all_cons]
def words1 : List Jvm.Cond := Jvm.Cond.code x code maxLocals ret :: tables_1
/-- a 'code' word, met by the world's own term for the bytes: nothing is compared byte by byte -/
theorem code_word {y : MethodName} {bytes : ByteArray} {mx : Nat} {rt : Option FieldType} {a : Array Value} {s : State} {m : MethodId} {meth : Method} {c : Code} (h1 : s.methodNamed? y = some m) (h2 : s.vm.method? m = some meth) (h3 : meth.code = some c) (h4 : c.code = bytes)
    (h5 : (c.maxLocals == mx && c.exceptionTable.isEmpty && decide (c.maxStack ≤ mostOperands) && decide (meth.sig.returnType = rt) && !meth.locks && decide (parseMethodDescriptor y.desc = some meth.sig)) = true) : (Jvm.Cond.code y bytes mx rt).before a s = true := by
  simp only [Bool.and_eq_true, beq_iff_eq, Bool.not_eq_true', decide_eq_true_eq] at h5
  obtain ⟨⟨⟨⟨⟨g1, g2⟩, g3⟩, g4⟩, g5⟩, g6⟩ := h5
  simp [Cond.before, Cond.holds, Cond.value, h1, h2, h3, h4, g1, g2, g3, g4, g5, g6]
def isCode : Jvm.Cond → Bool
  | .code _ _ _ _ => true
  | _ => false
theorem all_split {L : List Jvm.Cond} {P : Jvm.Cond → Bool} (h1 : L.all (fun c => isCode c || P c) = true) (h2 : ∀ c ∈ L.filter isCode, P c = true) : L.all P = true := by
  refine List.all_eq_true.mpr fun c hc => ?_
  have h := List.all_eq_true.mp h1 c hc
  rcases Bool.eq_false_or_eq_true (isCode c) with hi | hi
  · exact h2 c (List.mem_filter.mpr ⟨hc, hi⟩)
  · simpa [hi] using h
set_option maxRecDepth 65536 in
theorem w_c0 : (Jvm.Cond.code x code maxLocals ret).before args0 about1 = true := code_word (m := ⟨1, 1⟩) (meth := k1m1) (c := k1c1) (by decide +kernel) rfl rfl rfl (by decide +kernel)
set_option maxRecDepth 65536 in
theorem w_c1 : (Jvm.Cond.code ({ cls := "com/example/afterlog/afterlog/ListValue", name := "<init>", desc := "()V" } : Jvm.MethodName) prog_24_method_1_code (1 : Nat) (Option.none : Option Jvm.ClassFile.FieldType)).before args0 about1 = true := code_word (m := ⟨2, 0⟩) (meth := k2m0) (c := k2c0) (by decide +kernel) rfl rfl rfl (by decide +kernel)
set_option maxRecDepth 65536 in
theorem w_c2 : (Jvm.Cond.code ({ cls := "java/lang/Object", name := "<init>", desc := "()V" } : Jvm.MethodName) object_method_1_code (1 : Nat) (Option.none : Option Jvm.ClassFile.FieldType)).before args0 about1 = true := code_word (m := ⟨0, 0⟩) (meth := k0m0) (c := k0c0) (by decide +kernel) rfl rfl rfl (by decide +kernel)
set_option maxRecDepth 65536 in
theorem w_c3 : (Jvm.Cond.code ({ cls := "com/example/afterlog/afterlog/ListValue", name := "isEmpty", desc := "()Z" } : Jvm.MethodName) prog_24_method_3_code (1 : Nat) (Option.some Jvm.ClassFile.FieldType.boolean)).before args0 about1 = true := code_word (m := ⟨2, 1⟩) (meth := k2m1) (c := k2c1) (by decide +kernel) rfl rfl rfl (by decide +kernel)
set_option maxRecDepth 65536 in
theorem w_c4 : (Jvm.Cond.code ({ cls := "com/example/afterlog/afterlog/ListValueIsEmptyPinLaw", name := "step", desc := "(Lcom/example/afterlog/afterlog/ListValue;II[B)I" } : Jvm.MethodName) method_3_code (5 : Nat) (Option.some Jvm.ClassFile.FieldType.int)).before args0 about1 = true := code_word (m := ⟨1, 2⟩) (meth := k1m2) (c := k1c2) (by decide +kernel) rfl rfl rfl (by decide +kernel)
set_option maxRecDepth 65536 in
theorem w_c5 : (Jvm.Cond.code ({ cls := "com/example/afterlog/afterlog/ListValue", name := "push", desc := "(Lcom/example/afterlog/afterlog/ListValue$End;[B)V" } : Jvm.MethodName) prog_24_method_6_code (3 : Nat) (Option.none : Option Jvm.ClassFile.FieldType)).before args0 about1 = true := code_word (m := ⟨2, 2⟩) (meth := k2m2) (c := k2c2) (by decide +kernel) rfl rfl rfl (by decide +kernel)
set_option maxRecDepth 65536 in
theorem w_c6 : (Jvm.Cond.code ({ cls := "com/example/afterlog/afterlog/ListValue", name := "slot", desc := "(I)I" } : Jvm.MethodName) prog_24_method_8_code (3 : Nat) (Option.some Jvm.ClassFile.FieldType.int)).before args0 about1 = true := code_word (m := ⟨2, 4⟩) (meth := k2m4) (c := k2c4) (by decide +kernel) rfl rfl rfl (by decide +kernel)
set_option maxRecDepth 65536 in
theorem w_c7 : (Jvm.Cond.code ({ cls := "com/example/afterlog/afterlog/ListValue", name := "pop", desc := "(Lcom/example/afterlog/afterlog/ListValue$End;)[B" } : Jvm.MethodName) prog_24_method_7_code (4 : Nat) (Option.some (Jvm.ClassFile.FieldType.array Jvm.ClassFile.FieldType.byte))).before args0 about1 = true := code_word (m := ⟨2, 3⟩) (meth := k2m3) (c := k2c3) (by decide +kernel) rfl rfl rfl (by decide +kernel)
def codes1 : List Jvm.Cond := [Jvm.Cond.code x code maxLocals ret, Jvm.Cond.code ({ cls := "com/example/afterlog/afterlog/ListValue", name := "<init>", desc := "()V" } : Jvm.MethodName) prog_24_method_1_code (1 : Nat) (Option.none : Option Jvm.ClassFile.FieldType), Jvm.Cond.code ({ cls := "java/lang/Object", name := "<init>", desc := "()V" } : Jvm.MethodName) object_method_1_code (1 : Nat) (Option.none : Option Jvm.ClassFile.FieldType), Jvm.Cond.code ({ cls := "com/example/afterlog/afterlog/ListValue", name := "isEmpty", desc := "()Z" } : Jvm.MethodName) prog_24_method_3_code (1 : Nat) (Option.some Jvm.ClassFile.FieldType.boolean), Jvm.Cond.code ({ cls := "com/example/afterlog/afterlog/ListValueIsEmptyPinLaw", name := "step", desc := "(Lcom/example/afterlog/afterlog/ListValue;II[B)I" } : Jvm.MethodName) method_3_code (5 : Nat) (Option.some Jvm.ClassFile.FieldType.int), Jvm.Cond.code ({ cls := "com/example/afterlog/afterlog/ListValue", name := "push", desc := "(Lcom/example/afterlog/afterlog/ListValue$End;[B)V" } : Jvm.MethodName) prog_24_method_6_code (3 : Nat) (Option.none : Option Jvm.ClassFile.FieldType), Jvm.Cond.code ({ cls := "com/example/afterlog/afterlog/ListValue", name := "slot", desc := "(I)I" } : Jvm.MethodName) prog_24_method_8_code (3 : Nat) (Option.some Jvm.ClassFile.FieldType.int), Jvm.Cond.code ({ cls := "com/example/afterlog/afterlog/ListValue", name := "pop", desc := "(Lcom/example/afterlog/afterlog/ListValue$End;)[B" } : Jvm.MethodName) prog_24_method_7_code (4 : Nat) (Option.some (Jvm.ClassFile.FieldType.array Jvm.ClassFile.FieldType.byte))]
set_option maxRecDepth 65536 in
theorem codes_eq : words1.filter isCode = codes1 := rfl
theorem w_codes : ∀ c ∈ words1.filter isCode, c.before args0 about1 = true := by
  rw [codes_eq]
  intro c hc
  simp only [codes1, List.mem_cons, List.not_mem_nil, or_false] at hc
  rcases hc with rfl | rfl | rfl | rfl | rfl | rfl | rfl | rfl
  · exact w_c0
  · exact w_c1
  · exact w_c2
  · exact w_c3
  · exact w_c4
  · exact w_c5
  · exact w_c6
  · exact w_c7
set_option maxRecDepth 65536 in
theorem w_t1 : (words1.take 24).all (fun c => isCode c || c.before args0 about1) = true := by decide +kernel
set_option maxRecDepth 65536 in
theorem w_t2 : ((words1.drop 24).take 24).all (fun c => isCode c || c.before args0 about1) = true := by decide +kernel
set_option maxRecDepth 65536 in
theorem w_t3 : ((words1.drop 24).drop 24).all (fun c => isCode c || c.before args0 about1) = true := by decide +kernel
theorem w_tables : (allAtoms (Jvm.Cond.code x code maxLocals ret :: tables_1)).before args0 about1 = true := by
  rw [allAtoms_all]
  show words1.all (fun c => c.before args0 about1) = true
  refine all_split ?_ w_codes
  rw [← List.take_append_drop 24 words1, List.all_append, w_t1, ← List.take_append_drop 24 (words1.drop 24), List.all_append, w_t2, w_t3]
  rfl
set_option maxRecDepth 65536 in
theorem w_case : (Jvm.Cond.and given_1 narrow_1).before args0 about1 = true := by decide +kernel
theorem w_applies : (headSpec (Jvm.Cond.code x code maxLocals ret :: tables_1) room_1).applies x e0.platform about1 = true :=
  (Spec.applies_iff w_frames).mpr ⟨w_running, w_runnable, w_alone, w_named, w_hears, w_ripe, w_room, w_tables⟩
theorem atStart : AtStart classFile x code maxLocals ret World_1 tables_1 room_1 Calls_1 rest_1 Pre_1 launch0 p0 e0 about1 theMethod args0 below0 :=
  ⟨lists_1, trivial, launch0.admits_env _ _ _, launch0.least_env, fairChoices_fair.cas, fairChoices_fair.clock, w_frames, w_args, w_heap, w_applies, trivial, trivial, w_case⟩
end start1
theorem witness_1 : WitnessClaimed_1 := ⟨start1.p0, start1.e0, start1.about1, start1.theMethod, start1.args0, start1.below0, start1.atStart⟩
end Jvm.Pilot.@@N@@
