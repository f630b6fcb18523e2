import JvmDerived
import JvmDerived.Pilot.@@N@@Statement
import JvmDerived.Pilot.@@N@@Code
set_option linter.unusedVariables false
set_option linter.unusedSimpArgs false
namespace Jvm.RoadKit
open Sem ClassFile Op Lib Jvm.Stand Jvm.Free Jvm.LawKit
section New
variable {p : Program} {l : Launch} {e : Env} {R : Room} {s : State} {m : MethodId} {args : Array Value} {below : List Frame} {meth : Method} {c : Code} {T : State} {locs : List Loc} {cells slots : Nat}
theorem retI (X : Stand p l e R s m args below meth c T locs cells slots) (hx : p.tables.exec = Jvm.exec) {pc : Nat} {Ls : Array Slot} {z : Int32} {rest : List Value} (hret : meth.sig.returnType = some .int) (hd : decode c.code pc = .ok (.ireturn, 1)) {fs : List Frame}
    (hl : ∀ (f : JFrame) (acts : List Action), f.method = m → f.locked = none → f.entered = [] → (doReturn e (T.setTop f) acts (some (.int z))).1 = T.setFrames fs) : Steps p.tables e below (T.setTop (mkF m pc Ls (.int z :: rest))) (T.setFrames fs) := by
  have hm' : T.vm.method? m = some meth := X.method'
  have hn : narrow .int (.int z) = .int z := rfl
  show Steps p.tables e below (T.setTop { method := m, pc := pc, locals := Ls, stack := _ :: rest, locked := none }) _
  jvm_step X.here [X.here.top, hx, hd, hm', hret, hn]
  first | (intro acts; rw [hl _ acts rfl rfl rfl]) | rw [hl _ _ rfl rfl rfl]
  exact Steps.refl _
theorem own_retR (X : Stand p l e R s m args below meth c T locs cells slots) (hx : p.tables.exec = Jvm.exec) {pc : Nat} {Ls : Array Slot} {w : Value} {t : FieldType} {rest : List Value} (hret : meth.sig.returnType = some t) (ht : t.isReference = true) (hw : w.isRef = true) (hd : decode c.code pc = .ok (.areturn, 1)) {fs : List Frame}
    (hl : ∀ (f : JFrame) (acts : List Action), f.method = m → f.locked = none → f.entered = [] → (doReturn e (T.setTop f) acts (some w)).1 = T.setFrames fs) : Steps p.tables e below (T.setTop (mkF m pc Ls (w :: rest))) (T.setFrames fs) :=
  retOut X hx hret (by rcases ref_cases hw with rfl | ⟨z, rfl⟩ <;> cases t <;> first | rfl | (cases ht; done)) (Or.inr (Or.inr (Or.inr (Or.inr ⟨rfl, ht, hw⟩)))) hd hl
theorem own_retJ (X : Stand p l e R s m args below meth c T locs cells slots) (hx : p.tables.exec = Jvm.exec) {pc : Nat} {Ls : Array Slot} {z : Int64} {rest : List Value} (hret : meth.sig.returnType = some .long) (hd : decode c.code pc = .ok (.lreturn, 1)) {fs : List Frame}
    (hl : ∀ (f : JFrame) (acts : List Action), f.method = m → f.locked = none → f.entered = [] → (doReturn e (T.setTop f) acts (some (.long z))).1 = T.setFrames fs) : Steps p.tables e below (T.setTop (mkF m pc Ls (.long z :: rest))) (T.setFrames fs) :=
  retOut X hx hret rfl (Or.inr (Or.inl ⟨rfl, rfl, z, rfl⟩)) hd hl
end New
theorem own_eqv {args : Array Value} {first s : State} {o : Option Outcome} {idx : List Nat} {a b : Term} {v : Value} (h : (Jvm.Cond.eq a b).value args first o s idx = some true) (hb : b.eval args first o idx s = some v) (hk : (match v with | .int _ => true | .ref _ => true | .long _ => true | _ => false) = true := by rfl) : a.eval args first o idx s = some v := by
  simp only [Cond.value, hb] at h
  cases ha : a.eval args first o idx s with
  | none => simp [ha] at h
  | some x => cases x <;> cases v <;> simp_all
theorem own_selP {Z s : State} {a0 args : Array Value} {y : MethodName} {n : Nat} (hZ : Z.Warmed39 s.vm) (wi : (Cond.instantiable y.cls n).before a0 Z = true) (wp : (Cond.privateMethod y).before a0 Z = true) (wm : (Cond.instanceMethod y).before a0 Z = true) (hy : y.cls ≠ "java/lang/invoke/MethodHandle" ∧ y.cls ≠ "java/lang/invoke/VarHandle") : (Cond.selects y.cls y y).before args s = true := by
  have wi' : (Cond.instantiable y.cls n).before args s = true := mvT hZ wi
  have wm' : (Cond.instanceMethod y).before args s = true := mvT hZ wm
  obtain ⟨c, k, h1, h2, -, h4, -⟩ := Cond.instantiable_spec wi'
  simp only [Bool.or_eq_false_iff] at h4
  exact selects_self_of_private h1 h2 h4.1 (Cond.privateMethod_at (mvP hZ wp (args := #[]))) wm' hy
theorem own_selQ {Z s : State} {a0 args : Array Value} {y : MethodName} {y' : MethodName} {n' d' : String} (hZ : Z.Warmed39 s.vm) (wi : (Cond.selects y.cls y' ⟨y.cls, n', d'⟩).before a0 Z = true) (wp : (Cond.privateMethod y).before a0 Z = true) (wm : (Cond.instanceMethod y).before a0 Z = true) (hy : y.cls ≠ "java/lang/invoke/MethodHandle" ∧ y.cls ≠ "java/lang/invoke/VarHandle") : (Cond.selects y.cls y y).before args s = true := by
  have wi' : (Cond.selects y.cls y' ⟨y.cls, n', d'⟩).before args s = true := mvT hZ wi
  have wm' : (Cond.instanceMethod y).before args s = true := mvT hZ wm
  obtain ⟨c2, r2, m2, -, -, q3, -, kP, hkP, hkPi⟩ := Cond.selects_spec wi'
  have hc := findClass_of_methodNamed q3
  exact selects_self_of_private (c := m2.cls) hc hkP hkPi (Cond.privateMethod_at (mvP hZ wp (args := #[]))) wm' hy
theorem own_len {args : Array Value} {s : State} {t : Term} {a : Addr} {cl : Cell} {ty : FieldType} {z : Int32} (ht : t.eval args s none [] s = some (.ref a)) (A : Arr s s.heap a cl ty) (h : (Term.length t).eval args s none [] s = some (.int z)) : cl.slots.size < 2 ^ 31 ∧ cl.slots.size.toInt32 = z := by
  have e := A.fin (Vm.Alike.refl _)
  simp only [Term.eval, ht, e, Option.bind_eq_bind, Option.bind_some] at h
  split at h <;> simp_all
end Jvm.RoadKit
namespace Jvm.Pilot.@@N@@
open Jvm Jvm.ClassFile Sem Op Lib Jvm.Free Jvm.Stand Jvm.LawKit Jvm.RoadKit Bundle Jvm.Pilot.@@N@@.Jvm.D
theorem tw {Z : State} {a0 : Array Value} (hw : ∀ d ∈ tables_1, d.before a0 Z = true) (i : Nat) {d : Jvm.Cond} (h : tables_1[i]? = some d) : d.before a0 Z = true := hw d (List.mem_of_getElem? h)
abbrev MF (l : Launch) (Z : State) (y : MethodName) (cd : Jvm.Cond) (ws : List Jvm.Cond) (rm : Room) (A : Array Value) (h0 : Heap) (Q : Option Value → Heap → List Loc → Prop) : Prop := MetFree l y (head1 (cd :: ws) rm) (fun a U => a = A ∧ Z.Warmed39 U.vm ∧ U.heap = h0) (fun _ _ _ _ _ => True) (fun _ U o U' => ∃ v L, o = .returned v ∧ Q v U'.heap L ∧ FrameEnd U o U' L rm.cells rm.slots)
def Fin (p : Program) (e : Env) (below : List Frame) (s : State) (n0 : Nat) (S0 : State) : Prop := ∃ s₂ o, Steps p.tables e below S0 s₂ ∧ s₂.status = .running ∧ Ended s₂ below o ∧ ∃ v L, o = .returned v ∧ (v = some (.int (1 : Int32)) ∧ Fr n0 L) ∧ FrameEnd s o s₂ L room_1.cells room_1.slots
theorem Fin.pre {p : Program} {e : Env} {below : List Frame} {s S0 S1 : State} {n0 : Nat} (k : ∀ t, Steps p.tables e below S1 t → Steps p.tables e below S0 t) (h : Fin p e below s n0 S1) : Fin p e below s n0 S0 := by
  obtain ⟨u, o, h1, h2⟩ := h; exact ⟨u, o, k _ h1, h2⟩
abbrev SF (p : Program) (e : Env) (below : List Frame) (T : State) (g : JFrame) (t : State) : Prop := Steps p.tables e below (T.setTop g) t
abbrev HW (Z : State) (a0 : Array Value) : Prop := ∀ d ∈ tables_1, d.before a0 Z = true
theorem own_mod7 (a : Int32) : ((a &&& (2147483647 : Int32)) % (7 : Int32)) = (0 : Int32) ∨ ((a &&& (2147483647 : Int32)) % (7 : Int32)) = (1 : Int32) ∨ ((a &&& (2147483647 : Int32)) % (7 : Int32)) = (2 : Int32) ∨ ((a &&& (2147483647 : Int32)) % (7 : Int32)) = (3 : Int32) ∨ ((a &&& (2147483647 : Int32)) % (7 : Int32)) = (4 : Int32) ∨ ((a &&& (2147483647 : Int32)) % (7 : Int32)) = (5 : Int32) ∨ ((a &&& (2147483647 : Int32)) % (7 : Int32)) = (6 : Int32) := by
  have h1 := (c_and a (2147483647 : Int32)) (by decide)
  have h2 := (c_iremV (a &&& (2147483647 : Int32)) (7 : Int32)).1 h1.1 (by decide)
  have e : (7 : Int32).toInt = 7 := rfl
  rw [e] at h2
  simp only [← Int32.toInt_inj]
  show _ = (0 : Int) ∨ _ = (1 : Int) ∨ _ = (2 : Int) ∨ _ = (3 : Int) ∨ _ = (4 : Int) ∨ _ = (5 : Int) ∨ _ = (6 : Int)
  omega
theorem d1_0 : decode prog_16_method_5_code 0 = .ok (.getstatic 52, 3) := by decide +kernel
theorem d1_3 : decode prog_16_method_5_code 3 = .ok (.astore_n 1, 1) := by decide +kernel
theorem d1_4 : decode prog_16_method_5_code 4 = .ok (.aload_n 1, 1) := by decide +kernel
theorem d1_5 : decode prog_16_method_5_code 5 = .ok (.arraylength, 1) := by decide +kernel
theorem d1_6 : decode prog_16_method_5_code 6 = .ok (.istore_n 2, 1) := by decide +kernel
theorem d1_7 : decode prog_16_method_5_code 7 = .ok (.iconst 0, 1) := by decide +kernel
theorem d1_8 : decode prog_16_method_5_code 8 = .ok (.istore_n 3, 1) := by decide +kernel
theorem d1_9 : decode prog_16_method_5_code 9 = .ok (.iload_n 3, 1) := by decide +kernel
theorem d1_10 : decode prog_16_method_5_code 10 = .ok (.iload_n 2, 1) := by decide +kernel
theorem d1_11 : decode prog_16_method_5_code 11 = .ok (.if_icmp .ge 26, 3) := by decide +kernel
theorem d1_14 : decode prog_16_method_5_code 14 = .ok (.aload_n 1, 1) := by decide +kernel
theorem d1_15 : decode prog_16_method_5_code 15 = .ok (.iload_n 3, 1) := by decide +kernel
theorem d1_16 : decode prog_16_method_5_code 16 = .ok (.aaload, 1) := by decide +kernel
theorem d1_17 : decode prog_16_method_5_code 17 = .ok (.astore 4, 2) := by decide +kernel
theorem d1_19 : decode prog_16_method_5_code 19 = .ok (.aload 4, 2) := by decide +kernel
theorem d1_21 : decode prog_16_method_5_code 21 = .ok (.getfield 44, 3) := by decide +kernel
theorem d1_24 : decode prog_16_method_5_code 24 = .ok (.iload_n 0, 1) := by decide +kernel
theorem d1_25 : decode prog_16_method_5_code 25 = .ok (.if_icmp .ne 6, 3) := by decide +kernel
theorem d1_28 : decode prog_16_method_5_code 28 = .ok (.aload 4, 2) := by decide +kernel
theorem d1_30 : decode prog_16_method_5_code 30 = .ok (.areturn, 1) := by decide +kernel
theorem pn_0 : plainName "com/example/umask/umask/FileType" = true := by first | (simp [plainName, overriddenIn]; done) | decide +kernel
theorem ef_0 (m : MethodId) (x0 : Int32) : entryFrame m #[(.int x0)] 5 = mkF m 0 #[.val (.int x0), .unset, .unset, .unset, .unset] [] := by first | (simp [entryFrame, mkF, argsToLocals, Value.category]; done) | rfl
-- FileType.fromLsLetter 
def Q1_1 (Z : State) (w2 : Addr) (kw2 : ClassId) (w1 : Addr) (w4 : Addr) (w5 : Addr) (w3 : Addr) (w7 : Addr) (w6 : Addr) (w8 : Addr) (h0 : Heap) (n0 : Nat) (v : Option Value) (h : Heap) (L : List Loc) : Prop := v = some (.ref w1) ∧ Fr n0 L ∧ h = h0
set_option maxRecDepth 65536 in
set_option maxHeartbeats 40000000 in
theorem rm1_1 (l : Launch) (Z : State) (a0 : Array Value) (hw : HW Z a0) (ws : List Jvm.Cond) (w2 : Addr) (kw2 : ClassId) (w1 : Addr) (w4 : Addr) (w5 : Addr) (w3 : Addr) (w7 : Addr) (w6 : Addr) (w8 : Addr) (h0 : Heap) (n0 : Nat) (Z0 : n0 ≤ h0.size) (S2 : Sta Z Z.heap "com/example/umask/umask/FileType" "TYPES" "[Lcom/example/umask/umask/FileType;" (.ref w2)) (P2 : Old Z n0 h0) (V_w2 : Arv Z Z.heap w2 kw2 (.object "com/example/umask/umask/FileType") (7 : Int32) [(.ref w1), (.ref w4), (.ref w5), (.ref w3), (.ref w7), (.ref w6), (.ref w8)] .null) (F_w1_lsLetter : Fld Z Z.heap w1 "com/example/umask/umask/FileType" "lsLetter" "C" (.int 45)) :
    MF l Z (⟨"com/example/umask/umask/FileType", "fromLsLetter", "(C)Lcom/example/umask/umask/FileType;"⟩ : MethodName) (Jvm.Cond.code (⟨"com/example/umask/umask/FileType", "fromLsLetter", "(C)Lcom/example/umask/umask/FileType;"⟩ : MethodName) prog_16_method_5_code 5 (some (.object "com/example/umask/umask/FileType"))) ws ({ frames := 0, cells := 0, slots := 0, locals := 0 } : Room) #[(.int 45)] h0 (Q1_1 Z w2 kw2 w1 w4 w5 w3 w7 w6 w8 h0 n0) := by
  refine MetFree.of_bodySF (plainFor_of_name pn_0) hisR ?_
  intro p e s m args below meth c s₁ Bd hml0 hP hK
  obtain ⟨rfl, hZ, hh⟩ := hP
  have hx := Bd.exec
  have hby := Bd.bytes
  have hml : c.maxLocals = 5 := hml0
  have hown : s.vm.findClass "com/example/umask/umask/FileType" = some m.cls := findClass_of_methodNamed Bd.named
  have hnm := (name_of_methodNamed Bd.named Bd.method).1
  have X0 : Stand p l e ({ frames := 0, cells := 0, slots := 0, locals := 0 } : Room) s m #[(.int 45)] below meth c s₁ [] 0 0 := Stand.of_body Bd
  have e0 : s₁.heap = h0 := by rw [← hh, Bd.state]; rfl
  have N0 := Fr.nil n0
  have pre0 : ∀ t, SF p e below s₁ (mkF m 0 #[iv 45, .unset, .unset, .unset, .unset] []) t → SF p e below s₁ (entryFrame m #[(.int 45)] 5) t := fun t k => castTop (ef_0 m (45 : Int32)) k
  obtain ⟨T1, X1, e1, st1⟩ := getS2 X0 hx hZ hown (host := "") (Or.inl (tw hw 7 rfl)) Via.refl e0 (S2.ext P2.2) (g := (mkF m 0 #[iv 45, .unset, .unset, .unset, .unset] [])) rfl (hb hby d1_0)
  obtain ⟨cl2, Ar2, q2, S2, N2z, H2, G2⟩ := (V_w2.ext P2.2)
  obtain ⟨cl3, Ar3, q3, S3, N3z, H3, G3⟩ := (V_w2.ext P2.2)
  have hin3 : ¬ ((0 : Int32) < 0 ∨ cl3.slots.size ≤ ((0 : Int32)).toNatClampNeg) := inb_of S3 ⟨by decide, by decide⟩
  have hat3 : cl3.slots[((0 : Int32)).toNatClampNeg]? = some (.ref w1) := Has.at H3 hin3 rfl
  obtain ⟨T4, X4, e4, st4⟩ := getF X1 hx hZ hown (host := "") (Or.inl (tw hw 9 rfl)) Via.refl e1 (F_w1_lsLetter.ext P2.2) (g := (mkF m 21 #[iv 45, rv w2, iv 7, iv 0, rv w1] [(.ref w1)])) rfl rfl (hb hby d1_21)
  obtain ⟨fs, hr, hrun, hended, hW, hsame⟩ := X4.leave (v := some (.ref w1)) (fun h => by rw [Bd.returns] at h; cases h)
  refine ⟨_, _, pre0 _ ?_, hrun, hended, _, _, rfl, ?_, ⟨_, rfl⟩, hW, hsame.mono (by decide) (by decide)⟩
  · show SF p e below s₁ (mkF m 0 #[iv 45, .unset, .unset, .unset, .unset] []) _
    refine st1 _ ?_
    show SF p e below T1 (mkF m 3 #[iv 45, .unset, .unset, .unset, .unset] [(.ref w2)]) _
    refine XS.astoreN X1.here hx rfl (hb hby d1_3) rfl rfl (l' := #[iv 45, rv w2, .unset, .unset, .unset]) rfl ?_
    show SF p e below T1 (mkF m 4 #[iv 45, rv w2, .unset, .unset, .unset] []) _
    refine XS.aloadN X1.here hx rfl (hb hby d1_4) rfl rfl ?_
    show SF p e below T1 (mkF m 5 #[iv 45, rv w2, .unset, .unset, .unset] [(.ref w2)]) _
    refine X1.arraylength hx (by rw [e1]; exact Ar2.1) (State.isArrayOf_alike hZ.alike Ar2.2.1) (g := (mkF m 5 #[iv 45, rv w2, .unset, .unset, .unset] [(.ref w2)])) rfl rfl (hb hby d1_5) _ ?_
    rw [len_of S2 N2z]
    show SF p e below T1 (mkF m 6 #[iv 45, rv w2, .unset, .unset, .unset] [(.int 7)]) _
    refine XS.istoreN X1.here hx rfl (hb hby d1_6) rfl (l' := #[iv 45, rv w2, iv 7, .unset, .unset]) rfl ?_
    show SF p e below T1 (mkF m 7 #[iv 45, rv w2, iv 7, .unset, .unset] []) _
    refine XS.iconst X1.here hx rfl (hb hby d1_7) ?_
    show SF p e below T1 (mkF m 8 #[iv 45, rv w2, iv 7, .unset, .unset] [(.int 0)]) _
    refine XS.istoreN X1.here hx rfl (hb hby d1_8) rfl (l' := #[iv 45, rv w2, iv 7, iv 0, .unset]) rfl ?_
    show SF p e below T1 (mkF m 9 #[iv 45, rv w2, iv 7, iv 0, .unset] []) _
    refine XS.iloadN X1.here hx rfl (hb hby d1_9) rfl ?_
    show SF p e below T1 (mkF m 10 #[iv 45, rv w2, iv 7, iv 0, .unset] [(.int 0)]) _
    refine XS.iloadN X1.here hx rfl (hb hby d1_10) rfl ?_
    show SF p e below T1 (mkF m 11 #[iv 45, rv w2, iv 7, iv 0, .unset] [(.int 7), (.int 0)]) _
    refine XS.icmpNo X1.here hx rfl (hb hby d1_11) rfl (tlt (by decide : (0 : Int32) < (7 : Int32))).2.1 ?_
    show SF p e below T1 (mkF m 14 #[iv 45, rv w2, iv 7, iv 0, .unset] []) _
    refine XS.aloadN X1.here hx rfl (hb hby d1_14) rfl rfl ?_
    show SF p e below T1 (mkF m 15 #[iv 45, rv w2, iv 7, iv 0, .unset] [(.ref w2)]) _
    refine XS.iloadN X1.here hx rfl (hb hby d1_15) rfl ?_
    show SF p e below T1 (mkF m 16 #[iv 45, rv w2, iv 7, iv 0, .unset] [(.int 0), (.ref w2)]) _
    refine X1.aaload hx (j := (0 : Int32)) (v := (.ref w1)) (by rw [e1]; exact Ar3.1) (State.isArrayOf_alike hZ.alike Ar3.2.1) rfl Ar3.2.2 hin3 hat3 (g := (mkF m 16 #[iv 45, rv w2, iv 7, iv 0, .unset] [(.int 0), (.ref w2)])) rfl rfl (hb hby d1_16) _ ?_
    show SF p e below T1 (mkF m 17 #[iv 45, rv w2, iv 7, iv 0, .unset] [(.ref w1)]) _
    refine XS.astore X1.here hx rfl (hb hby d1_17) rfl rfl (l' := #[iv 45, rv w2, iv 7, iv 0, rv w1]) rfl ?_
    show SF p e below T1 (mkF m 19 #[iv 45, rv w2, iv 7, iv 0, rv w1] []) _
    refine XS.aload X1.here hx rfl (hb hby d1_19) rfl rfl ?_
    show SF p e below T1 (mkF m 21 #[iv 45, rv w2, iv 7, iv 0, rv w1] [(.ref w1)]) _
    refine st4 _ ?_
    show SF p e below T4 (mkF m 24 #[iv 45, rv w2, iv 7, iv 0, rv w1] [(.int 45)]) _
    refine XS.iloadN X4.here hx rfl (hb hby d1_24) rfl ?_
    show SF p e below T4 (mkF m 25 #[iv 45, rv w2, iv 7, iv 0, rv w1] [(.int 45), (.int 45)]) _
    refine XS.icmpNo X4.here hx rfl (hb hby d1_25) rfl (teq (by decide : (45 : Int32) = (45 : Int32))).2 ?_
    show SF p e below T4 (mkF m 28 #[iv 45, rv w2, iv 7, iv 0, rv w1] []) _
    refine XS.aload X4.here hx rfl (hb hby d1_28) rfl rfl ?_
    show SF p e below T4 (mkF m 30 #[iv 45, rv w2, iv 7, iv 0, rv w1] [(.ref w1)]) _
    exact own_retR X4 hx Bd.returns rfl rfl (hb hby d1_30) hr
  · show Q1_1 Z w2 kw2 w1 w4 w5 w3 w7 w6 w8 h0 n0 _ T4.heap _
    rw [e4]
    exact ⟨rfl, N0, rfl⟩
theorem pd_0 : parseMethodDescriptor "(C)Lcom/example/umask/umask/FileType;" = some ⟨[.char], some (.object "com/example/umask/umask/FileType")⟩ := by decide +kernel
theorem d2_0 : decode prog_16_method_4_code 0 = .ok (.aload_n 0, 1) := by decide +kernel
theorem d2_1 : decode prog_16_method_4_code 1 = .ok (.getfield 44, 3) := by decide +kernel
theorem d2_4 : decode prog_16_method_4_code 4 = .ok (.ireturn, 1) := by decide +kernel
theorem ef_1 (m : MethodId) (x0 : Addr) : entryFrame m #[(.ref x0)] 1 = mkF m 0 #[.val (.ref x0)] [] := by first | (simp [entryFrame, mkF, argsToLocals, Value.category]; done) | rfl
-- FileType.lsLetter 
def Q2_2 (Z : State) (w1 : Addr) (h0 : Heap) (n0 : Nat) (v : Option Value) (h : Heap) (L : List Loc) : Prop := v = some (.int 45) ∧ Fr n0 L ∧ h = h0
set_option maxRecDepth 65536 in
set_option maxHeartbeats 40000000 in
theorem rm2_2 (l : Launch) (Z : State) (a0 : Array Value) (hw : HW Z a0) (ws : List Jvm.Cond) (w1 : Addr) (h0 : Heap) (n0 : Nat) (Z0 : n0 ≤ h0.size) (F_w1_lsLetter : Fld Z Z.heap w1 "com/example/umask/umask/FileType" "lsLetter" "C" (.int 45)) (P2 : Old Z n0 h0) :
    MF l Z (⟨"com/example/umask/umask/FileType", "lsLetter", "()C"⟩ : MethodName) (Jvm.Cond.code (⟨"com/example/umask/umask/FileType", "lsLetter", "()C"⟩ : MethodName) prog_16_method_4_code 1 (some .char)) ws ({ frames := 0, cells := 0, slots := 0, locals := 0 } : Room) #[(.ref w1)] h0 (Q2_2 Z w1 h0 n0) := by
  refine MetFree.of_bodySF (plainFor_of_name pn_0) hisR ?_
  intro p e s m args below meth c s₁ Bd hml0 hP hK
  obtain ⟨rfl, hZ, hh⟩ := hP
  have hx := Bd.exec
  have hby := Bd.bytes
  have hml : c.maxLocals = 1 := hml0
  have hown : s.vm.findClass "com/example/umask/umask/FileType" = some m.cls := findClass_of_methodNamed Bd.named
  have hnm := (name_of_methodNamed Bd.named Bd.method).1
  have X0 : Stand p l e ({ frames := 0, cells := 0, slots := 0, locals := 0 } : Room) s m #[(.ref w1)] below meth c s₁ [] 0 0 := Stand.of_body Bd
  have e0 : s₁.heap = h0 := by rw [← hh, Bd.state]; rfl
  have N0 := Fr.nil n0
  have pre0 : ∀ t, SF p e below s₁ (mkF m 0 #[rv w1] []) t → SF p e below s₁ (entryFrame m #[(.ref w1)] 1) t := fun t k => castTop (ef_1 m w1) k
  obtain ⟨T1, X1, e1, st1⟩ := getF X0 hx hZ hown (host := "") (Or.inl (tw hw 9 rfl)) Via.refl e0 (F_w1_lsLetter.ext P2.2) (g := (mkF m 1 #[rv w1] [(.ref w1)])) rfl rfl (hb hby d2_1)
  obtain ⟨fs, hr, hrun, hended, hW, hsame⟩ := X1.leave (v := some (.int 45)) (fun h => by rw [Bd.returns] at h; cases h)
  refine ⟨_, _, pre0 _ ?_, hrun, hended, _, _, rfl, ?_, ⟨_, rfl⟩, hW, hsame.mono (by decide) (by decide)⟩
  · show SF p e below s₁ (mkF m 0 #[rv w1] []) _
    refine XS.aloadN X0.here hx rfl (hb hby d2_0) rfl rfl ?_
    show SF p e below s₁ (mkF m 1 #[rv w1] [(.ref w1)]) _
    refine st1 _ ?_
    show SF p e below T1 (mkF m 4 #[rv w1] [(.int 45)]) _
    exact retN X1 hx (t := .char) Bd.returns (by simp) (hb hby d2_4) hr
  · show Q2_2 Z w1 h0 n0 _ T1.heap _
    rw [e1]
    exact ⟨rfl, N0, rfl⟩
theorem pd_1 : parseMethodDescriptor "()C" = some ⟨[], some .char⟩ := by decide +kernel
theorem d1_31 : decode prog_16_method_5_code 31 = .ok (.iinc 3 1, 3) := by decide +kernel
theorem d1_34 : decode prog_16_method_5_code 34 = .ok (.goto (-25), 3) := by decide +kernel
-- FileType.fromLsLetter 
def Q1_3 (Z : State) (w2 : Addr) (kw2 : ClassId) (w1 : Addr) (w4 : Addr) (w5 : Addr) (w3 : Addr) (w7 : Addr) (w6 : Addr) (w8 : Addr) (h0 : Heap) (n0 : Nat) (v : Option Value) (h : Heap) (L : List Loc) : Prop := v = some (.ref w4) ∧ Fr n0 L ∧ h = h0
set_option maxRecDepth 65536 in
set_option maxHeartbeats 40000000 in
theorem rm1_3 (l : Launch) (Z : State) (a0 : Array Value) (hw : HW Z a0) (ws : List Jvm.Cond) (w2 : Addr) (kw2 : ClassId) (w1 : Addr) (w4 : Addr) (w5 : Addr) (w3 : Addr) (w7 : Addr) (w6 : Addr) (w8 : Addr) (h0 : Heap) (n0 : Nat) (Z0 : n0 ≤ h0.size) (S2 : Sta Z Z.heap "com/example/umask/umask/FileType" "TYPES" "[Lcom/example/umask/umask/FileType;" (.ref w2)) (P2 : Old Z n0 h0) (V_w2 : Arv Z Z.heap w2 kw2 (.object "com/example/umask/umask/FileType") (7 : Int32) [(.ref w1), (.ref w4), (.ref w5), (.ref w3), (.ref w7), (.ref w6), (.ref w8)] .null) (F_w1_lsLetter : Fld Z Z.heap w1 "com/example/umask/umask/FileType" "lsLetter" "C" (.int 45)) (F_w4_lsLetter : Fld Z Z.heap w4 "com/example/umask/umask/FileType" "lsLetter" "C" (.int 100)) :
    MF l Z (⟨"com/example/umask/umask/FileType", "fromLsLetter", "(C)Lcom/example/umask/umask/FileType;"⟩ : MethodName) (Jvm.Cond.code (⟨"com/example/umask/umask/FileType", "fromLsLetter", "(C)Lcom/example/umask/umask/FileType;"⟩ : MethodName) prog_16_method_5_code 5 (some (.object "com/example/umask/umask/FileType"))) ws ({ frames := 0, cells := 0, slots := 0, locals := 0 } : Room) #[(.int 100)] h0 (Q1_3 Z w2 kw2 w1 w4 w5 w3 w7 w6 w8 h0 n0) := by
  refine MetFree.of_bodySF (plainFor_of_name pn_0) hisR ?_
  intro p e s m args below meth c s₁ Bd hml0 hP hK
  obtain ⟨rfl, hZ, hh⟩ := hP
  have hx := Bd.exec
  have hby := Bd.bytes
  have hml : c.maxLocals = 5 := hml0
  have hown : s.vm.findClass "com/example/umask/umask/FileType" = some m.cls := findClass_of_methodNamed Bd.named
  have hnm := (name_of_methodNamed Bd.named Bd.method).1
  have X0 : Stand p l e ({ frames := 0, cells := 0, slots := 0, locals := 0 } : Room) s m #[(.int 100)] below meth c s₁ [] 0 0 := Stand.of_body Bd
  have e0 : s₁.heap = h0 := by rw [← hh, Bd.state]; rfl
  have N0 := Fr.nil n0
  have pre0 : ∀ t, SF p e below s₁ (mkF m 0 #[iv 100, .unset, .unset, .unset, .unset] []) t → SF p e below s₁ (entryFrame m #[(.int 100)] 5) t := fun t k => castTop (ef_0 m (100 : Int32)) k
  obtain ⟨T1, X1, e1, st1⟩ := getS2 X0 hx hZ hown (host := "") (Or.inl (tw hw 7 rfl)) Via.refl e0 (S2.ext P2.2) (g := (mkF m 0 #[iv 100, .unset, .unset, .unset, .unset] [])) rfl (hb hby d1_0)
  obtain ⟨cl2, Ar2, q2, S2, N2z, H2, G2⟩ := (V_w2.ext P2.2)
  obtain ⟨cl3, Ar3, q3, S3, N3z, H3, G3⟩ := (V_w2.ext P2.2)
  have hin3 : ¬ ((0 : Int32) < 0 ∨ cl3.slots.size ≤ ((0 : Int32)).toNatClampNeg) := inb_of S3 ⟨by decide, by decide⟩
  have hat3 : cl3.slots[((0 : Int32)).toNatClampNeg]? = some (.ref w1) := Has.at H3 hin3 rfl
  obtain ⟨T4, X4, e4, st4⟩ := getF X1 hx hZ hown (host := "") (Or.inl (tw hw 9 rfl)) Via.refl e1 (F_w1_lsLetter.ext P2.2) (g := (mkF m 21 #[iv 100, rv w2, iv 7, iv 0, rv w1] [(.ref w1)])) rfl rfl (hb hby d1_21)
  obtain ⟨cl5, Ar5, q5, S5, N5z, H5, G5⟩ := (V_w2.ext P2.2)
  have hin5 : ¬ ((1 : Int32) < 0 ∨ cl5.slots.size ≤ ((1 : Int32)).toNatClampNeg) := inb_of S5 ⟨by decide, by decide⟩
  have hat5 : cl5.slots[((1 : Int32)).toNatClampNeg]? = some (.ref w4) := Has.at H5 hin5 rfl
  obtain ⟨T6, X6, e6, st6⟩ := getF X4 hx hZ hown (host := "") (Or.inl (tw hw 9 rfl)) Via.refl e4 (F_w4_lsLetter.ext P2.2) (g := (mkF m 21 #[iv 100, rv w2, iv 7, iv 1, rv w4] [(.ref w4)])) rfl rfl (hb hby d1_21)
  obtain ⟨fs, hr, hrun, hended, hW, hsame⟩ := X6.leave (v := some (.ref w4)) (fun h => by rw [Bd.returns] at h; cases h)
  refine ⟨_, _, pre0 _ ?_, hrun, hended, _, _, rfl, ?_, ⟨_, rfl⟩, hW, hsame.mono (by decide) (by decide)⟩
  · show SF p e below s₁ (mkF m 0 #[iv 100, .unset, .unset, .unset, .unset] []) _
    refine st1 _ ?_
    show SF p e below T1 (mkF m 3 #[iv 100, .unset, .unset, .unset, .unset] [(.ref w2)]) _
    refine XS.astoreN X1.here hx rfl (hb hby d1_3) rfl rfl (l' := #[iv 100, rv w2, .unset, .unset, .unset]) rfl ?_
    show SF p e below T1 (mkF m 4 #[iv 100, rv w2, .unset, .unset, .unset] []) _
    refine XS.aloadN X1.here hx rfl (hb hby d1_4) rfl rfl ?_
    show SF p e below T1 (mkF m 5 #[iv 100, rv w2, .unset, .unset, .unset] [(.ref w2)]) _
    refine X1.arraylength hx (by rw [e1]; exact Ar2.1) (State.isArrayOf_alike hZ.alike Ar2.2.1) (g := (mkF m 5 #[iv 100, rv w2, .unset, .unset, .unset] [(.ref w2)])) rfl rfl (hb hby d1_5) _ ?_
    rw [len_of S2 N2z]
    show SF p e below T1 (mkF m 6 #[iv 100, rv w2, .unset, .unset, .unset] [(.int 7)]) _
    refine XS.istoreN X1.here hx rfl (hb hby d1_6) rfl (l' := #[iv 100, rv w2, iv 7, .unset, .unset]) rfl ?_
    show SF p e below T1 (mkF m 7 #[iv 100, rv w2, iv 7, .unset, .unset] []) _
    refine XS.iconst X1.here hx rfl (hb hby d1_7) ?_
    show SF p e below T1 (mkF m 8 #[iv 100, rv w2, iv 7, .unset, .unset] [(.int 0)]) _
    refine XS.istoreN X1.here hx rfl (hb hby d1_8) rfl (l' := #[iv 100, rv w2, iv 7, iv 0, .unset]) rfl ?_
    show SF p e below T1 (mkF m 9 #[iv 100, rv w2, iv 7, iv 0, .unset] []) _
    refine XS.iloadN X1.here hx rfl (hb hby d1_9) rfl ?_
    show SF p e below T1 (mkF m 10 #[iv 100, rv w2, iv 7, iv 0, .unset] [(.int 0)]) _
    refine XS.iloadN X1.here hx rfl (hb hby d1_10) rfl ?_
    show SF p e below T1 (mkF m 11 #[iv 100, rv w2, iv 7, iv 0, .unset] [(.int 7), (.int 0)]) _
    refine XS.icmpNo X1.here hx rfl (hb hby d1_11) rfl (tlt (by decide : (0 : Int32) < (7 : Int32))).2.1 ?_
    show SF p e below T1 (mkF m 14 #[iv 100, rv w2, iv 7, iv 0, .unset] []) _
    refine XS.aloadN X1.here hx rfl (hb hby d1_14) rfl rfl ?_
    show SF p e below T1 (mkF m 15 #[iv 100, rv w2, iv 7, iv 0, .unset] [(.ref w2)]) _
    refine XS.iloadN X1.here hx rfl (hb hby d1_15) rfl ?_
    show SF p e below T1 (mkF m 16 #[iv 100, rv w2, iv 7, iv 0, .unset] [(.int 0), (.ref w2)]) _
    refine X1.aaload hx (j := (0 : Int32)) (v := (.ref w1)) (by rw [e1]; exact Ar3.1) (State.isArrayOf_alike hZ.alike Ar3.2.1) rfl Ar3.2.2 hin3 hat3 (g := (mkF m 16 #[iv 100, rv w2, iv 7, iv 0, .unset] [(.int 0), (.ref w2)])) rfl rfl (hb hby d1_16) _ ?_
    show SF p e below T1 (mkF m 17 #[iv 100, rv w2, iv 7, iv 0, .unset] [(.ref w1)]) _
    refine XS.astore X1.here hx rfl (hb hby d1_17) rfl rfl (l' := #[iv 100, rv w2, iv 7, iv 0, rv w1]) rfl ?_
    show SF p e below T1 (mkF m 19 #[iv 100, rv w2, iv 7, iv 0, rv w1] []) _
    refine XS.aload X1.here hx rfl (hb hby d1_19) rfl rfl ?_
    show SF p e below T1 (mkF m 21 #[iv 100, rv w2, iv 7, iv 0, rv w1] [(.ref w1)]) _
    refine st4 _ ?_
    show SF p e below T4 (mkF m 24 #[iv 100, rv w2, iv 7, iv 0, rv w1] [(.int 45)]) _
    refine XS.iloadN X4.here hx rfl (hb hby d1_24) rfl ?_
    show SF p e below T4 (mkF m 25 #[iv 100, rv w2, iv 7, iv 0, rv w1] [(.int 100), (.int 45)]) _
    refine XS.icmpYes X4.here hx rfl (pc0 := 25) (pc' := 31) rfl (hb hby d1_25) rfl (feq (by decide : ¬ ((45 : Int32) = (100 : Int32)))).2 (by decide) (by decide) ?_
    show SF p e below T4 (mkF m 31 #[iv 100, rv w2, iv 7, iv 0, rv w1] []) _
    refine XS.iinc X4.here hx rfl (hb hby d1_31) rfl (l' := #[iv 100, rv w2, iv 7, iv ((0 : Int32) + (1 : Int32)), rv w1]) rfl ?_
    show SF p e below T4 (mkF m 34 #[iv 100, rv w2, iv 7, iv ((0 : Int32) + (1 : Int32)), rv w1] []) _
    rw [show ((0 : Int32) + (1 : Int32)) = (1 : Int32) from by decide]
    show SF p e below T4 (mkF m 34 #[iv 100, rv w2, iv 7, iv 1, rv w1] []) _
    refine XS.goto X4.here hx rfl (pc0 := 34) (pc' := 9) rfl (hb hby d1_34) (by decide) (by decide) ?_
    show SF p e below T4 (mkF m 9 #[iv 100, rv w2, iv 7, iv 1, rv w1] []) _
    refine XS.iloadN X4.here hx rfl (hb hby d1_9) rfl ?_
    show SF p e below T4 (mkF m 10 #[iv 100, rv w2, iv 7, iv 1, rv w1] [(.int 1)]) _
    refine XS.iloadN X4.here hx rfl (hb hby d1_10) rfl ?_
    show SF p e below T4 (mkF m 11 #[iv 100, rv w2, iv 7, iv 1, rv w1] [(.int 7), (.int 1)]) _
    refine XS.icmpNo X4.here hx rfl (hb hby d1_11) rfl (tlt (by decide : (1 : Int32) < (7 : Int32))).2.1 ?_
    show SF p e below T4 (mkF m 14 #[iv 100, rv w2, iv 7, iv 1, rv w1] []) _
    refine XS.aloadN X4.here hx rfl (hb hby d1_14) rfl rfl ?_
    show SF p e below T4 (mkF m 15 #[iv 100, rv w2, iv 7, iv 1, rv w1] [(.ref w2)]) _
    refine XS.iloadN X4.here hx rfl (hb hby d1_15) rfl ?_
    show SF p e below T4 (mkF m 16 #[iv 100, rv w2, iv 7, iv 1, rv w1] [(.int 1), (.ref w2)]) _
    refine X4.aaload hx (j := (1 : Int32)) (v := (.ref w4)) (by rw [e4]; exact Ar5.1) (State.isArrayOf_alike hZ.alike Ar5.2.1) rfl Ar5.2.2 hin5 hat5 (g := (mkF m 16 #[iv 100, rv w2, iv 7, iv 1, rv w1] [(.int 1), (.ref w2)])) rfl rfl (hb hby d1_16) _ ?_
    show SF p e below T4 (mkF m 17 #[iv 100, rv w2, iv 7, iv 1, rv w1] [(.ref w4)]) _
    refine XS.astore X4.here hx rfl (hb hby d1_17) rfl rfl (l' := #[iv 100, rv w2, iv 7, iv 1, rv w4]) rfl ?_
    show SF p e below T4 (mkF m 19 #[iv 100, rv w2, iv 7, iv 1, rv w4] []) _
    refine XS.aload X4.here hx rfl (hb hby d1_19) rfl rfl ?_
    show SF p e below T4 (mkF m 21 #[iv 100, rv w2, iv 7, iv 1, rv w4] [(.ref w4)]) _
    refine st6 _ ?_
    show SF p e below T6 (mkF m 24 #[iv 100, rv w2, iv 7, iv 1, rv w4] [(.int 100)]) _
    refine XS.iloadN X6.here hx rfl (hb hby d1_24) rfl ?_
    show SF p e below T6 (mkF m 25 #[iv 100, rv w2, iv 7, iv 1, rv w4] [(.int 100), (.int 100)]) _
    refine XS.icmpNo X6.here hx rfl (hb hby d1_25) rfl (teq (by decide : (100 : Int32) = (100 : Int32))).2 ?_
    show SF p e below T6 (mkF m 28 #[iv 100, rv w2, iv 7, iv 1, rv w4] []) _
    refine XS.aload X6.here hx rfl (hb hby d1_28) rfl rfl ?_
    show SF p e below T6 (mkF m 30 #[iv 100, rv w2, iv 7, iv 1, rv w4] [(.ref w4)]) _
    exact own_retR X6 hx Bd.returns rfl rfl (hb hby d1_30) hr
  · show Q1_3 Z w2 kw2 w1 w4 w5 w3 w7 w6 w8 h0 n0 _ T6.heap _
    rw [e6]
    exact ⟨rfl, N0, rfl⟩
-- FileType.lsLetter 
def Q2_4 (Z : State) (w4 : Addr) (h0 : Heap) (n0 : Nat) (v : Option Value) (h : Heap) (L : List Loc) : Prop := v = some (.int 100) ∧ Fr n0 L ∧ h = h0
set_option maxRecDepth 65536 in
set_option maxHeartbeats 40000000 in
theorem rm2_4 (l : Launch) (Z : State) (a0 : Array Value) (hw : HW Z a0) (ws : List Jvm.Cond) (w4 : Addr) (h0 : Heap) (n0 : Nat) (Z0 : n0 ≤ h0.size) (F_w4_lsLetter : Fld Z Z.heap w4 "com/example/umask/umask/FileType" "lsLetter" "C" (.int 100)) (P2 : Old Z n0 h0) :
    MF l Z (⟨"com/example/umask/umask/FileType", "lsLetter", "()C"⟩ : MethodName) (Jvm.Cond.code (⟨"com/example/umask/umask/FileType", "lsLetter", "()C"⟩ : MethodName) prog_16_method_4_code 1 (some .char)) ws ({ frames := 0, cells := 0, slots := 0, locals := 0 } : Room) #[(.ref w4)] h0 (Q2_4 Z w4 h0 n0) := by
  refine MetFree.of_bodySF (plainFor_of_name pn_0) hisR ?_
  intro p e s m args below meth c s₁ Bd hml0 hP hK
  obtain ⟨rfl, hZ, hh⟩ := hP
  have hx := Bd.exec
  have hby := Bd.bytes
  have hml : c.maxLocals = 1 := hml0
  have hown : s.vm.findClass "com/example/umask/umask/FileType" = some m.cls := findClass_of_methodNamed Bd.named
  have hnm := (name_of_methodNamed Bd.named Bd.method).1
  have X0 : Stand p l e ({ frames := 0, cells := 0, slots := 0, locals := 0 } : Room) s m #[(.ref w4)] below meth c s₁ [] 0 0 := Stand.of_body Bd
  have e0 : s₁.heap = h0 := by rw [← hh, Bd.state]; rfl
  have N0 := Fr.nil n0
  have pre0 : ∀ t, SF p e below s₁ (mkF m 0 #[rv w4] []) t → SF p e below s₁ (entryFrame m #[(.ref w4)] 1) t := fun t k => castTop (ef_1 m w4) k
  obtain ⟨T1, X1, e1, st1⟩ := getF X0 hx hZ hown (host := "") (Or.inl (tw hw 9 rfl)) Via.refl e0 (F_w4_lsLetter.ext P2.2) (g := (mkF m 1 #[rv w4] [(.ref w4)])) rfl rfl (hb hby d2_1)
  obtain ⟨fs, hr, hrun, hended, hW, hsame⟩ := X1.leave (v := some (.int 100)) (fun h => by rw [Bd.returns] at h; cases h)
  refine ⟨_, _, pre0 _ ?_, hrun, hended, _, _, rfl, ?_, ⟨_, rfl⟩, hW, hsame.mono (by decide) (by decide)⟩
  · show SF p e below s₁ (mkF m 0 #[rv w4] []) _
    refine XS.aloadN X0.here hx rfl (hb hby d2_0) rfl rfl ?_
    show SF p e below s₁ (mkF m 1 #[rv w4] [(.ref w4)]) _
    refine st1 _ ?_
    show SF p e below T1 (mkF m 4 #[rv w4] [(.int 100)]) _
    exact retN X1 hx (t := .char) Bd.returns (by simp) (hb hby d2_4) hr
  · show Q2_4 Z w4 h0 n0 _ T1.heap _
    rw [e1]
    exact ⟨rfl, N0, rfl⟩
-- FileType.fromLsLetter 
def Q1_5 (Z : State) (w2 : Addr) (kw2 : ClassId) (w1 : Addr) (w4 : Addr) (w5 : Addr) (w3 : Addr) (w7 : Addr) (w6 : Addr) (w8 : Addr) (h0 : Heap) (n0 : Nat) (v : Option Value) (h : Heap) (L : List Loc) : Prop := v = some (.ref w5) ∧ Fr n0 L ∧ h = h0
set_option maxRecDepth 65536 in
set_option maxHeartbeats 40000000 in
theorem rm1_5 (l : Launch) (Z : State) (a0 : Array Value) (hw : HW Z a0) (ws : List Jvm.Cond) (w2 : Addr) (kw2 : ClassId) (w1 : Addr) (w4 : Addr) (w5 : Addr) (w3 : Addr) (w7 : Addr) (w6 : Addr) (w8 : Addr) (h0 : Heap) (n0 : Nat) (Z0 : n0 ≤ h0.size) (S2 : Sta Z Z.heap "com/example/umask/umask/FileType" "TYPES" "[Lcom/example/umask/umask/FileType;" (.ref w2)) (P2 : Old Z n0 h0) (V_w2 : Arv Z Z.heap w2 kw2 (.object "com/example/umask/umask/FileType") (7 : Int32) [(.ref w1), (.ref w4), (.ref w5), (.ref w3), (.ref w7), (.ref w6), (.ref w8)] .null) (F_w1_lsLetter : Fld Z Z.heap w1 "com/example/umask/umask/FileType" "lsLetter" "C" (.int 45)) (F_w4_lsLetter : Fld Z Z.heap w4 "com/example/umask/umask/FileType" "lsLetter" "C" (.int 100)) (F_w5_lsLetter : Fld Z Z.heap w5 "com/example/umask/umask/FileType" "lsLetter" "C" (.int 108)) :
    MF l Z (⟨"com/example/umask/umask/FileType", "fromLsLetter", "(C)Lcom/example/umask/umask/FileType;"⟩ : MethodName) (Jvm.Cond.code (⟨"com/example/umask/umask/FileType", "fromLsLetter", "(C)Lcom/example/umask/umask/FileType;"⟩ : MethodName) prog_16_method_5_code 5 (some (.object "com/example/umask/umask/FileType"))) ws ({ frames := 0, cells := 0, slots := 0, locals := 0 } : Room) #[(.int 108)] h0 (Q1_5 Z w2 kw2 w1 w4 w5 w3 w7 w6 w8 h0 n0) := by
  refine MetFree.of_bodySF (plainFor_of_name pn_0) hisR ?_
  intro p e s m args below meth c s₁ Bd hml0 hP hK
  obtain ⟨rfl, hZ, hh⟩ := hP
  have hx := Bd.exec
  have hby := Bd.bytes
  have hml : c.maxLocals = 5 := hml0
  have hown : s.vm.findClass "com/example/umask/umask/FileType" = some m.cls := findClass_of_methodNamed Bd.named
  have hnm := (name_of_methodNamed Bd.named Bd.method).1
  have X0 : Stand p l e ({ frames := 0, cells := 0, slots := 0, locals := 0 } : Room) s m #[(.int 108)] below meth c s₁ [] 0 0 := Stand.of_body Bd
  have e0 : s₁.heap = h0 := by rw [← hh, Bd.state]; rfl
  have N0 := Fr.nil n0
  have pre0 : ∀ t, SF p e below s₁ (mkF m 0 #[iv 108, .unset, .unset, .unset, .unset] []) t → SF p e below s₁ (entryFrame m #[(.int 108)] 5) t := fun t k => castTop (ef_0 m (108 : Int32)) k
  obtain ⟨T1, X1, e1, st1⟩ := getS2 X0 hx hZ hown (host := "") (Or.inl (tw hw 7 rfl)) Via.refl e0 (S2.ext P2.2) (g := (mkF m 0 #[iv 108, .unset, .unset, .unset, .unset] [])) rfl (hb hby d1_0)
  obtain ⟨cl2, Ar2, q2, S2, N2z, H2, G2⟩ := (V_w2.ext P2.2)
  obtain ⟨cl3, Ar3, q3, S3, N3z, H3, G3⟩ := (V_w2.ext P2.2)
  have hin3 : ¬ ((0 : Int32) < 0 ∨ cl3.slots.size ≤ ((0 : Int32)).toNatClampNeg) := inb_of S3 ⟨by decide, by decide⟩
  have hat3 : cl3.slots[((0 : Int32)).toNatClampNeg]? = some (.ref w1) := Has.at H3 hin3 rfl
  obtain ⟨T4, X4, e4, st4⟩ := getF X1 hx hZ hown (host := "") (Or.inl (tw hw 9 rfl)) Via.refl e1 (F_w1_lsLetter.ext P2.2) (g := (mkF m 21 #[iv 108, rv w2, iv 7, iv 0, rv w1] [(.ref w1)])) rfl rfl (hb hby d1_21)
  obtain ⟨cl5, Ar5, q5, S5, N5z, H5, G5⟩ := (V_w2.ext P2.2)
  have hin5 : ¬ ((1 : Int32) < 0 ∨ cl5.slots.size ≤ ((1 : Int32)).toNatClampNeg) := inb_of S5 ⟨by decide, by decide⟩
  have hat5 : cl5.slots[((1 : Int32)).toNatClampNeg]? = some (.ref w4) := Has.at H5 hin5 rfl
  obtain ⟨T6, X6, e6, st6⟩ := getF X4 hx hZ hown (host := "") (Or.inl (tw hw 9 rfl)) Via.refl e4 (F_w4_lsLetter.ext P2.2) (g := (mkF m 21 #[iv 108, rv w2, iv 7, iv 1, rv w4] [(.ref w4)])) rfl rfl (hb hby d1_21)
  obtain ⟨cl7, Ar7, q7, S7, N7z, H7, G7⟩ := (V_w2.ext P2.2)
  have hin7 : ¬ ((2 : Int32) < 0 ∨ cl7.slots.size ≤ ((2 : Int32)).toNatClampNeg) := inb_of S7 ⟨by decide, by decide⟩
  have hat7 : cl7.slots[((2 : Int32)).toNatClampNeg]? = some (.ref w5) := Has.at H7 hin7 rfl
  obtain ⟨T8, X8, e8, st8⟩ := getF X6 hx hZ hown (host := "") (Or.inl (tw hw 9 rfl)) Via.refl e6 (F_w5_lsLetter.ext P2.2) (g := (mkF m 21 #[iv 108, rv w2, iv 7, iv 2, rv w5] [(.ref w5)])) rfl rfl (hb hby d1_21)
  obtain ⟨fs, hr, hrun, hended, hW, hsame⟩ := X8.leave (v := some (.ref w5)) (fun h => by rw [Bd.returns] at h; cases h)
  refine ⟨_, _, pre0 _ ?_, hrun, hended, _, _, rfl, ?_, ⟨_, rfl⟩, hW, hsame.mono (by decide) (by decide)⟩
  · show SF p e below s₁ (mkF m 0 #[iv 108, .unset, .unset, .unset, .unset] []) _
    refine st1 _ ?_
    show SF p e below T1 (mkF m 3 #[iv 108, .unset, .unset, .unset, .unset] [(.ref w2)]) _
    refine XS.astoreN X1.here hx rfl (hb hby d1_3) rfl rfl (l' := #[iv 108, rv w2, .unset, .unset, .unset]) rfl ?_
    show SF p e below T1 (mkF m 4 #[iv 108, rv w2, .unset, .unset, .unset] []) _
    refine XS.aloadN X1.here hx rfl (hb hby d1_4) rfl rfl ?_
    show SF p e below T1 (mkF m 5 #[iv 108, rv w2, .unset, .unset, .unset] [(.ref w2)]) _
    refine X1.arraylength hx (by rw [e1]; exact Ar2.1) (State.isArrayOf_alike hZ.alike Ar2.2.1) (g := (mkF m 5 #[iv 108, rv w2, .unset, .unset, .unset] [(.ref w2)])) rfl rfl (hb hby d1_5) _ ?_
    rw [len_of S2 N2z]
    show SF p e below T1 (mkF m 6 #[iv 108, rv w2, .unset, .unset, .unset] [(.int 7)]) _
    refine XS.istoreN X1.here hx rfl (hb hby d1_6) rfl (l' := #[iv 108, rv w2, iv 7, .unset, .unset]) rfl ?_
    show SF p e below T1 (mkF m 7 #[iv 108, rv w2, iv 7, .unset, .unset] []) _
    refine XS.iconst X1.here hx rfl (hb hby d1_7) ?_
    show SF p e below T1 (mkF m 8 #[iv 108, rv w2, iv 7, .unset, .unset] [(.int 0)]) _
    refine XS.istoreN X1.here hx rfl (hb hby d1_8) rfl (l' := #[iv 108, rv w2, iv 7, iv 0, .unset]) rfl ?_
    show SF p e below T1 (mkF m 9 #[iv 108, rv w2, iv 7, iv 0, .unset] []) _
    refine XS.iloadN X1.here hx rfl (hb hby d1_9) rfl ?_
    show SF p e below T1 (mkF m 10 #[iv 108, rv w2, iv 7, iv 0, .unset] [(.int 0)]) _
    refine XS.iloadN X1.here hx rfl (hb hby d1_10) rfl ?_
    show SF p e below T1 (mkF m 11 #[iv 108, rv w2, iv 7, iv 0, .unset] [(.int 7), (.int 0)]) _
    refine XS.icmpNo X1.here hx rfl (hb hby d1_11) rfl (tlt (by decide : (0 : Int32) < (7 : Int32))).2.1 ?_
    show SF p e below T1 (mkF m 14 #[iv 108, rv w2, iv 7, iv 0, .unset] []) _
    refine XS.aloadN X1.here hx rfl (hb hby d1_14) rfl rfl ?_
    show SF p e below T1 (mkF m 15 #[iv 108, rv w2, iv 7, iv 0, .unset] [(.ref w2)]) _
    refine XS.iloadN X1.here hx rfl (hb hby d1_15) rfl ?_
    show SF p e below T1 (mkF m 16 #[iv 108, rv w2, iv 7, iv 0, .unset] [(.int 0), (.ref w2)]) _
    refine X1.aaload hx (j := (0 : Int32)) (v := (.ref w1)) (by rw [e1]; exact Ar3.1) (State.isArrayOf_alike hZ.alike Ar3.2.1) rfl Ar3.2.2 hin3 hat3 (g := (mkF m 16 #[iv 108, rv w2, iv 7, iv 0, .unset] [(.int 0), (.ref w2)])) rfl rfl (hb hby d1_16) _ ?_
    show SF p e below T1 (mkF m 17 #[iv 108, rv w2, iv 7, iv 0, .unset] [(.ref w1)]) _
    refine XS.astore X1.here hx rfl (hb hby d1_17) rfl rfl (l' := #[iv 108, rv w2, iv 7, iv 0, rv w1]) rfl ?_
    show SF p e below T1 (mkF m 19 #[iv 108, rv w2, iv 7, iv 0, rv w1] []) _
    refine XS.aload X1.here hx rfl (hb hby d1_19) rfl rfl ?_
    show SF p e below T1 (mkF m 21 #[iv 108, rv w2, iv 7, iv 0, rv w1] [(.ref w1)]) _
    refine st4 _ ?_
    show SF p e below T4 (mkF m 24 #[iv 108, rv w2, iv 7, iv 0, rv w1] [(.int 45)]) _
    refine XS.iloadN X4.here hx rfl (hb hby d1_24) rfl ?_
    show SF p e below T4 (mkF m 25 #[iv 108, rv w2, iv 7, iv 0, rv w1] [(.int 108), (.int 45)]) _
    refine XS.icmpYes X4.here hx rfl (pc0 := 25) (pc' := 31) rfl (hb hby d1_25) rfl (feq (by decide : ¬ ((45 : Int32) = (108 : Int32)))).2 (by decide) (by decide) ?_
    show SF p e below T4 (mkF m 31 #[iv 108, rv w2, iv 7, iv 0, rv w1] []) _
    refine XS.iinc X4.here hx rfl (hb hby d1_31) rfl (l' := #[iv 108, rv w2, iv 7, iv ((0 : Int32) + (1 : Int32)), rv w1]) rfl ?_
    show SF p e below T4 (mkF m 34 #[iv 108, rv w2, iv 7, iv ((0 : Int32) + (1 : Int32)), rv w1] []) _
    rw [show ((0 : Int32) + (1 : Int32)) = (1 : Int32) from by decide]
    show SF p e below T4 (mkF m 34 #[iv 108, rv w2, iv 7, iv 1, rv w1] []) _
    refine XS.goto X4.here hx rfl (pc0 := 34) (pc' := 9) rfl (hb hby d1_34) (by decide) (by decide) ?_
    show SF p e below T4 (mkF m 9 #[iv 108, rv w2, iv 7, iv 1, rv w1] []) _
    refine XS.iloadN X4.here hx rfl (hb hby d1_9) rfl ?_
    show SF p e below T4 (mkF m 10 #[iv 108, rv w2, iv 7, iv 1, rv w1] [(.int 1)]) _
    refine XS.iloadN X4.here hx rfl (hb hby d1_10) rfl ?_
    show SF p e below T4 (mkF m 11 #[iv 108, rv w2, iv 7, iv 1, rv w1] [(.int 7), (.int 1)]) _
    refine XS.icmpNo X4.here hx rfl (hb hby d1_11) rfl (tlt (by decide : (1 : Int32) < (7 : Int32))).2.1 ?_
    show SF p e below T4 (mkF m 14 #[iv 108, rv w2, iv 7, iv 1, rv w1] []) _
    refine XS.aloadN X4.here hx rfl (hb hby d1_14) rfl rfl ?_
    show SF p e below T4 (mkF m 15 #[iv 108, rv w2, iv 7, iv 1, rv w1] [(.ref w2)]) _
    refine XS.iloadN X4.here hx rfl (hb hby d1_15) rfl ?_
    show SF p e below T4 (mkF m 16 #[iv 108, rv w2, iv 7, iv 1, rv w1] [(.int 1), (.ref w2)]) _
    refine X4.aaload hx (j := (1 : Int32)) (v := (.ref w4)) (by rw [e4]; exact Ar5.1) (State.isArrayOf_alike hZ.alike Ar5.2.1) rfl Ar5.2.2 hin5 hat5 (g := (mkF m 16 #[iv 108, rv w2, iv 7, iv 1, rv w1] [(.int 1), (.ref w2)])) rfl rfl (hb hby d1_16) _ ?_
    show SF p e below T4 (mkF m 17 #[iv 108, rv w2, iv 7, iv 1, rv w1] [(.ref w4)]) _
    refine XS.astore X4.here hx rfl (hb hby d1_17) rfl rfl (l' := #[iv 108, rv w2, iv 7, iv 1, rv w4]) rfl ?_
    show SF p e below T4 (mkF m 19 #[iv 108, rv w2, iv 7, iv 1, rv w4] []) _
    refine XS.aload X4.here hx rfl (hb hby d1_19) rfl rfl ?_
    show SF p e below T4 (mkF m 21 #[iv 108, rv w2, iv 7, iv 1, rv w4] [(.ref w4)]) _
    refine st6 _ ?_
    show SF p e below T6 (mkF m 24 #[iv 108, rv w2, iv 7, iv 1, rv w4] [(.int 100)]) _
    refine XS.iloadN X6.here hx rfl (hb hby d1_24) rfl ?_
    show SF p e below T6 (mkF m 25 #[iv 108, rv w2, iv 7, iv 1, rv w4] [(.int 108), (.int 100)]) _
    refine XS.icmpYes X6.here hx rfl (pc0 := 25) (pc' := 31) rfl (hb hby d1_25) rfl (feq (by decide : ¬ ((100 : Int32) = (108 : Int32)))).2 (by decide) (by decide) ?_
    show SF p e below T6 (mkF m 31 #[iv 108, rv w2, iv 7, iv 1, rv w4] []) _
    refine XS.iinc X6.here hx rfl (hb hby d1_31) rfl (l' := #[iv 108, rv w2, iv 7, iv ((1 : Int32) + (1 : Int32)), rv w4]) rfl ?_
    show SF p e below T6 (mkF m 34 #[iv 108, rv w2, iv 7, iv ((1 : Int32) + (1 : Int32)), rv w4] []) _
    rw [show ((1 : Int32) + (1 : Int32)) = (2 : Int32) from by decide]
    show SF p e below T6 (mkF m 34 #[iv 108, rv w2, iv 7, iv 2, rv w4] []) _
    refine XS.goto X6.here hx rfl (pc0 := 34) (pc' := 9) rfl (hb hby d1_34) (by decide) (by decide) ?_
    show SF p e below T6 (mkF m 9 #[iv 108, rv w2, iv 7, iv 2, rv w4] []) _
    refine XS.iloadN X6.here hx rfl (hb hby d1_9) rfl ?_
    show SF p e below T6 (mkF m 10 #[iv 108, rv w2, iv 7, iv 2, rv w4] [(.int 2)]) _
    refine XS.iloadN X6.here hx rfl (hb hby d1_10) rfl ?_
    show SF p e below T6 (mkF m 11 #[iv 108, rv w2, iv 7, iv 2, rv w4] [(.int 7), (.int 2)]) _
    refine XS.icmpNo X6.here hx rfl (hb hby d1_11) rfl (tlt (by decide : (2 : Int32) < (7 : Int32))).2.1 ?_
    show SF p e below T6 (mkF m 14 #[iv 108, rv w2, iv 7, iv 2, rv w4] []) _
    refine XS.aloadN X6.here hx rfl (hb hby d1_14) rfl rfl ?_
    show SF p e below T6 (mkF m 15 #[iv 108, rv w2, iv 7, iv 2, rv w4] [(.ref w2)]) _
    refine XS.iloadN X6.here hx rfl (hb hby d1_15) rfl ?_
    show SF p e below T6 (mkF m 16 #[iv 108, rv w2, iv 7, iv 2, rv w4] [(.int 2), (.ref w2)]) _
    refine X6.aaload hx (j := (2 : Int32)) (v := (.ref w5)) (by rw [e6]; exact Ar7.1) (State.isArrayOf_alike hZ.alike Ar7.2.1) rfl Ar7.2.2 hin7 hat7 (g := (mkF m 16 #[iv 108, rv w2, iv 7, iv 2, rv w4] [(.int 2), (.ref w2)])) rfl rfl (hb hby d1_16) _ ?_
    show SF p e below T6 (mkF m 17 #[iv 108, rv w2, iv 7, iv 2, rv w4] [(.ref w5)]) _
    refine XS.astore X6.here hx rfl (hb hby d1_17) rfl rfl (l' := #[iv 108, rv w2, iv 7, iv 2, rv w5]) rfl ?_
    show SF p e below T6 (mkF m 19 #[iv 108, rv w2, iv 7, iv 2, rv w5] []) _
    refine XS.aload X6.here hx rfl (hb hby d1_19) rfl rfl ?_
    show SF p e below T6 (mkF m 21 #[iv 108, rv w2, iv 7, iv 2, rv w5] [(.ref w5)]) _
    refine st8 _ ?_
    show SF p e below T8 (mkF m 24 #[iv 108, rv w2, iv 7, iv 2, rv w5] [(.int 108)]) _
    refine XS.iloadN X8.here hx rfl (hb hby d1_24) rfl ?_
    show SF p e below T8 (mkF m 25 #[iv 108, rv w2, iv 7, iv 2, rv w5] [(.int 108), (.int 108)]) _
    refine XS.icmpNo X8.here hx rfl (hb hby d1_25) rfl (teq (by decide : (108 : Int32) = (108 : Int32))).2 ?_
    show SF p e below T8 (mkF m 28 #[iv 108, rv w2, iv 7, iv 2, rv w5] []) _
    refine XS.aload X8.here hx rfl (hb hby d1_28) rfl rfl ?_
    show SF p e below T8 (mkF m 30 #[iv 108, rv w2, iv 7, iv 2, rv w5] [(.ref w5)]) _
    exact own_retR X8 hx Bd.returns rfl rfl (hb hby d1_30) hr
  · show Q1_5 Z w2 kw2 w1 w4 w5 w3 w7 w6 w8 h0 n0 _ T8.heap _
    rw [e8]
    exact ⟨rfl, N0, rfl⟩
-- FileType.lsLetter 
def Q2_6 (Z : State) (w5 : Addr) (h0 : Heap) (n0 : Nat) (v : Option Value) (h : Heap) (L : List Loc) : Prop := v = some (.int 108) ∧ Fr n0 L ∧ h = h0
set_option maxRecDepth 65536 in
set_option maxHeartbeats 40000000 in
theorem rm2_6 (l : Launch) (Z : State) (a0 : Array Value) (hw : HW Z a0) (ws : List Jvm.Cond) (w5 : Addr) (h0 : Heap) (n0 : Nat) (Z0 : n0 ≤ h0.size) (F_w5_lsLetter : Fld Z Z.heap w5 "com/example/umask/umask/FileType" "lsLetter" "C" (.int 108)) (P2 : Old Z n0 h0) :
    MF l Z (⟨"com/example/umask/umask/FileType", "lsLetter", "()C"⟩ : MethodName) (Jvm.Cond.code (⟨"com/example/umask/umask/FileType", "lsLetter", "()C"⟩ : MethodName) prog_16_method_4_code 1 (some .char)) ws ({ frames := 0, cells := 0, slots := 0, locals := 0 } : Room) #[(.ref w5)] h0 (Q2_6 Z w5 h0 n0) := by
  refine MetFree.of_bodySF (plainFor_of_name pn_0) hisR ?_
  intro p e s m args below meth c s₁ Bd hml0 hP hK
  obtain ⟨rfl, hZ, hh⟩ := hP
  have hx := Bd.exec
  have hby := Bd.bytes
  have hml : c.maxLocals = 1 := hml0
  have hown : s.vm.findClass "com/example/umask/umask/FileType" = some m.cls := findClass_of_methodNamed Bd.named
  have hnm := (name_of_methodNamed Bd.named Bd.method).1
  have X0 : Stand p l e ({ frames := 0, cells := 0, slots := 0, locals := 0 } : Room) s m #[(.ref w5)] below meth c s₁ [] 0 0 := Stand.of_body Bd
  have e0 : s₁.heap = h0 := by rw [← hh, Bd.state]; rfl
  have N0 := Fr.nil n0
  have pre0 : ∀ t, SF p e below s₁ (mkF m 0 #[rv w5] []) t → SF p e below s₁ (entryFrame m #[(.ref w5)] 1) t := fun t k => castTop (ef_1 m w5) k
  obtain ⟨T1, X1, e1, st1⟩ := getF X0 hx hZ hown (host := "") (Or.inl (tw hw 9 rfl)) Via.refl e0 (F_w5_lsLetter.ext P2.2) (g := (mkF m 1 #[rv w5] [(.ref w5)])) rfl rfl (hb hby d2_1)
  obtain ⟨fs, hr, hrun, hended, hW, hsame⟩ := X1.leave (v := some (.int 108)) (fun h => by rw [Bd.returns] at h; cases h)
  refine ⟨_, _, pre0 _ ?_, hrun, hended, _, _, rfl, ?_, ⟨_, rfl⟩, hW, hsame.mono (by decide) (by decide)⟩
  · show SF p e below s₁ (mkF m 0 #[rv w5] []) _
    refine XS.aloadN X0.here hx rfl (hb hby d2_0) rfl rfl ?_
    show SF p e below s₁ (mkF m 1 #[rv w5] [(.ref w5)]) _
    refine st1 _ ?_
    show SF p e below T1 (mkF m 4 #[rv w5] [(.int 108)]) _
    exact retN X1 hx (t := .char) Bd.returns (by simp) (hb hby d2_4) hr
  · show Q2_6 Z w5 h0 n0 _ T1.heap _
    rw [e1]
    exact ⟨rfl, N0, rfl⟩
-- FileType.fromLsLetter 
def Q1_7 (Z : State) (w2 : Addr) (kw2 : ClassId) (w1 : Addr) (w4 : Addr) (w5 : Addr) (w3 : Addr) (w7 : Addr) (w6 : Addr) (w8 : Addr) (h0 : Heap) (n0 : Nat) (v : Option Value) (h : Heap) (L : List Loc) : Prop := v = some (.ref w3) ∧ Fr n0 L ∧ h = h0
set_option maxRecDepth 65536 in
set_option maxHeartbeats 40000000 in
theorem rm1_7 (l : Launch) (Z : State) (a0 : Array Value) (hw : HW Z a0) (ws : List Jvm.Cond) (w2 : Addr) (kw2 : ClassId) (w1 : Addr) (w4 : Addr) (w5 : Addr) (w3 : Addr) (w7 : Addr) (w6 : Addr) (w8 : Addr) (h0 : Heap) (n0 : Nat) (Z0 : n0 ≤ h0.size) (S2 : Sta Z Z.heap "com/example/umask/umask/FileType" "TYPES" "[Lcom/example/umask/umask/FileType;" (.ref w2)) (P2 : Old Z n0 h0) (V_w2 : Arv Z Z.heap w2 kw2 (.object "com/example/umask/umask/FileType") (7 : Int32) [(.ref w1), (.ref w4), (.ref w5), (.ref w3), (.ref w7), (.ref w6), (.ref w8)] .null) (F_w1_lsLetter : Fld Z Z.heap w1 "com/example/umask/umask/FileType" "lsLetter" "C" (.int 45)) (F_w4_lsLetter : Fld Z Z.heap w4 "com/example/umask/umask/FileType" "lsLetter" "C" (.int 100)) (F_w5_lsLetter : Fld Z Z.heap w5 "com/example/umask/umask/FileType" "lsLetter" "C" (.int 108)) (F_w3_lsLetter : Fld Z Z.heap w3 "com/example/umask/umask/FileType" "lsLetter" "C" (.int 99)) :
    MF l Z (⟨"com/example/umask/umask/FileType", "fromLsLetter", "(C)Lcom/example/umask/umask/FileType;"⟩ : MethodName) (Jvm.Cond.code (⟨"com/example/umask/umask/FileType", "fromLsLetter", "(C)Lcom/example/umask/umask/FileType;"⟩ : MethodName) prog_16_method_5_code 5 (some (.object "com/example/umask/umask/FileType"))) ws ({ frames := 0, cells := 0, slots := 0, locals := 0 } : Room) #[(.int 99)] h0 (Q1_7 Z w2 kw2 w1 w4 w5 w3 w7 w6 w8 h0 n0) := by
  refine MetFree.of_bodySF (plainFor_of_name pn_0) hisR ?_
  intro p e s m args below meth c s₁ Bd hml0 hP hK
  obtain ⟨rfl, hZ, hh⟩ := hP
  have hx := Bd.exec
  have hby := Bd.bytes
  have hml : c.maxLocals = 5 := hml0
  have hown : s.vm.findClass "com/example/umask/umask/FileType" = some m.cls := findClass_of_methodNamed Bd.named
  have hnm := (name_of_methodNamed Bd.named Bd.method).1
  have X0 : Stand p l e ({ frames := 0, cells := 0, slots := 0, locals := 0 } : Room) s m #[(.int 99)] below meth c s₁ [] 0 0 := Stand.of_body Bd
  have e0 : s₁.heap = h0 := by rw [← hh, Bd.state]; rfl
  have N0 := Fr.nil n0
  have pre0 : ∀ t, SF p e below s₁ (mkF m 0 #[iv 99, .unset, .unset, .unset, .unset] []) t → SF p e below s₁ (entryFrame m #[(.int 99)] 5) t := fun t k => castTop (ef_0 m (99 : Int32)) k
  obtain ⟨T1, X1, e1, st1⟩ := getS2 X0 hx hZ hown (host := "") (Or.inl (tw hw 7 rfl)) Via.refl e0 (S2.ext P2.2) (g := (mkF m 0 #[iv 99, .unset, .unset, .unset, .unset] [])) rfl (hb hby d1_0)
  obtain ⟨cl2, Ar2, q2, S2, N2z, H2, G2⟩ := (V_w2.ext P2.2)
  obtain ⟨cl3, Ar3, q3, S3, N3z, H3, G3⟩ := (V_w2.ext P2.2)
  have hin3 : ¬ ((0 : Int32) < 0 ∨ cl3.slots.size ≤ ((0 : Int32)).toNatClampNeg) := inb_of S3 ⟨by decide, by decide⟩
  have hat3 : cl3.slots[((0 : Int32)).toNatClampNeg]? = some (.ref w1) := Has.at H3 hin3 rfl
  obtain ⟨T4, X4, e4, st4⟩ := getF X1 hx hZ hown (host := "") (Or.inl (tw hw 9 rfl)) Via.refl e1 (F_w1_lsLetter.ext P2.2) (g := (mkF m 21 #[iv 99, rv w2, iv 7, iv 0, rv w1] [(.ref w1)])) rfl rfl (hb hby d1_21)
  obtain ⟨cl5, Ar5, q5, S5, N5z, H5, G5⟩ := (V_w2.ext P2.2)
  have hin5 : ¬ ((1 : Int32) < 0 ∨ cl5.slots.size ≤ ((1 : Int32)).toNatClampNeg) := inb_of S5 ⟨by decide, by decide⟩
  have hat5 : cl5.slots[((1 : Int32)).toNatClampNeg]? = some (.ref w4) := Has.at H5 hin5 rfl
  obtain ⟨T6, X6, e6, st6⟩ := getF X4 hx hZ hown (host := "") (Or.inl (tw hw 9 rfl)) Via.refl e4 (F_w4_lsLetter.ext P2.2) (g := (mkF m 21 #[iv 99, rv w2, iv 7, iv 1, rv w4] [(.ref w4)])) rfl rfl (hb hby d1_21)
  obtain ⟨cl7, Ar7, q7, S7, N7z, H7, G7⟩ := (V_w2.ext P2.2)
  have hin7 : ¬ ((2 : Int32) < 0 ∨ cl7.slots.size ≤ ((2 : Int32)).toNatClampNeg) := inb_of S7 ⟨by decide, by decide⟩
  have hat7 : cl7.slots[((2 : Int32)).toNatClampNeg]? = some (.ref w5) := Has.at H7 hin7 rfl
  obtain ⟨T8, X8, e8, st8⟩ := getF X6 hx hZ hown (host := "") (Or.inl (tw hw 9 rfl)) Via.refl e6 (F_w5_lsLetter.ext P2.2) (g := (mkF m 21 #[iv 99, rv w2, iv 7, iv 2, rv w5] [(.ref w5)])) rfl rfl (hb hby d1_21)
  obtain ⟨cl9, Ar9, q9, S9, N9z, H9, G9⟩ := (V_w2.ext P2.2)
  have hin9 : ¬ ((3 : Int32) < 0 ∨ cl9.slots.size ≤ ((3 : Int32)).toNatClampNeg) := inb_of S9 ⟨by decide, by decide⟩
  have hat9 : cl9.slots[((3 : Int32)).toNatClampNeg]? = some (.ref w3) := Has.at H9 hin9 rfl
  obtain ⟨T10, X10, e10, st10⟩ := getF X8 hx hZ hown (host := "") (Or.inl (tw hw 9 rfl)) Via.refl e8 (F_w3_lsLetter.ext P2.2) (g := (mkF m 21 #[iv 99, rv w2, iv 7, iv 3, rv w3] [(.ref w3)])) rfl rfl (hb hby d1_21)
  obtain ⟨fs, hr, hrun, hended, hW, hsame⟩ := X10.leave (v := some (.ref w3)) (fun h => by rw [Bd.returns] at h; cases h)
  refine ⟨_, _, pre0 _ ?_, hrun, hended, _, _, rfl, ?_, ⟨_, rfl⟩, hW, hsame.mono (by decide) (by decide)⟩
  · show SF p e below s₁ (mkF m 0 #[iv 99, .unset, .unset, .unset, .unset] []) _
    refine st1 _ ?_
    show SF p e below T1 (mkF m 3 #[iv 99, .unset, .unset, .unset, .unset] [(.ref w2)]) _
    refine XS.astoreN X1.here hx rfl (hb hby d1_3) rfl rfl (l' := #[iv 99, rv w2, .unset, .unset, .unset]) rfl ?_
    show SF p e below T1 (mkF m 4 #[iv 99, rv w2, .unset, .unset, .unset] []) _
    refine XS.aloadN X1.here hx rfl (hb hby d1_4) rfl rfl ?_
    show SF p e below T1 (mkF m 5 #[iv 99, rv w2, .unset, .unset, .unset] [(.ref w2)]) _
    refine X1.arraylength hx (by rw [e1]; exact Ar2.1) (State.isArrayOf_alike hZ.alike Ar2.2.1) (g := (mkF m 5 #[iv 99, rv w2, .unset, .unset, .unset] [(.ref w2)])) rfl rfl (hb hby d1_5) _ ?_
    rw [len_of S2 N2z]
    show SF p e below T1 (mkF m 6 #[iv 99, rv w2, .unset, .unset, .unset] [(.int 7)]) _
    refine XS.istoreN X1.here hx rfl (hb hby d1_6) rfl (l' := #[iv 99, rv w2, iv 7, .unset, .unset]) rfl ?_
    show SF p e below T1 (mkF m 7 #[iv 99, rv w2, iv 7, .unset, .unset] []) _
    refine XS.iconst X1.here hx rfl (hb hby d1_7) ?_
    show SF p e below T1 (mkF m 8 #[iv 99, rv w2, iv 7, .unset, .unset] [(.int 0)]) _
    refine XS.istoreN X1.here hx rfl (hb hby d1_8) rfl (l' := #[iv 99, rv w2, iv 7, iv 0, .unset]) rfl ?_
    show SF p e below T1 (mkF m 9 #[iv 99, rv w2, iv 7, iv 0, .unset] []) _
    refine XS.iloadN X1.here hx rfl (hb hby d1_9) rfl ?_
    show SF p e below T1 (mkF m 10 #[iv 99, rv w2, iv 7, iv 0, .unset] [(.int 0)]) _
    refine XS.iloadN X1.here hx rfl (hb hby d1_10) rfl ?_
    show SF p e below T1 (mkF m 11 #[iv 99, rv w2, iv 7, iv 0, .unset] [(.int 7), (.int 0)]) _
    refine XS.icmpNo X1.here hx rfl (hb hby d1_11) rfl (tlt (by decide : (0 : Int32) < (7 : Int32))).2.1 ?_
    show SF p e below T1 (mkF m 14 #[iv 99, rv w2, iv 7, iv 0, .unset] []) _
    refine XS.aloadN X1.here hx rfl (hb hby d1_14) rfl rfl ?_
    show SF p e below T1 (mkF m 15 #[iv 99, rv w2, iv 7, iv 0, .unset] [(.ref w2)]) _
    refine XS.iloadN X1.here hx rfl (hb hby d1_15) rfl ?_
    show SF p e below T1 (mkF m 16 #[iv 99, rv w2, iv 7, iv 0, .unset] [(.int 0), (.ref w2)]) _
    refine X1.aaload hx (j := (0 : Int32)) (v := (.ref w1)) (by rw [e1]; exact Ar3.1) (State.isArrayOf_alike hZ.alike Ar3.2.1) rfl Ar3.2.2 hin3 hat3 (g := (mkF m 16 #[iv 99, rv w2, iv 7, iv 0, .unset] [(.int 0), (.ref w2)])) rfl rfl (hb hby d1_16) _ ?_
    show SF p e below T1 (mkF m 17 #[iv 99, rv w2, iv 7, iv 0, .unset] [(.ref w1)]) _
    refine XS.astore X1.here hx rfl (hb hby d1_17) rfl rfl (l' := #[iv 99, rv w2, iv 7, iv 0, rv w1]) rfl ?_
    show SF p e below T1 (mkF m 19 #[iv 99, rv w2, iv 7, iv 0, rv w1] []) _
    refine XS.aload X1.here hx rfl (hb hby d1_19) rfl rfl ?_
    show SF p e below T1 (mkF m 21 #[iv 99, rv w2, iv 7, iv 0, rv w1] [(.ref w1)]) _
    refine st4 _ ?_
    show SF p e below T4 (mkF m 24 #[iv 99, rv w2, iv 7, iv 0, rv w1] [(.int 45)]) _
    refine XS.iloadN X4.here hx rfl (hb hby d1_24) rfl ?_
    show SF p e below T4 (mkF m 25 #[iv 99, rv w2, iv 7, iv 0, rv w1] [(.int 99), (.int 45)]) _
    refine XS.icmpYes X4.here hx rfl (pc0 := 25) (pc' := 31) rfl (hb hby d1_25) rfl (feq (by decide : ¬ ((45 : Int32) = (99 : Int32)))).2 (by decide) (by decide) ?_
    show SF p e below T4 (mkF m 31 #[iv 99, rv w2, iv 7, iv 0, rv w1] []) _
    refine XS.iinc X4.here hx rfl (hb hby d1_31) rfl (l' := #[iv 99, rv w2, iv 7, iv ((0 : Int32) + (1 : Int32)), rv w1]) rfl ?_
    show SF p e below T4 (mkF m 34 #[iv 99, rv w2, iv 7, iv ((0 : Int32) + (1 : Int32)), rv w1] []) _
    rw [show ((0 : Int32) + (1 : Int32)) = (1 : Int32) from by decide]
    show SF p e below T4 (mkF m 34 #[iv 99, rv w2, iv 7, iv 1, rv w1] []) _
    refine XS.goto X4.here hx rfl (pc0 := 34) (pc' := 9) rfl (hb hby d1_34) (by decide) (by decide) ?_
    show SF p e below T4 (mkF m 9 #[iv 99, rv w2, iv 7, iv 1, rv w1] []) _
    refine XS.iloadN X4.here hx rfl (hb hby d1_9) rfl ?_
    show SF p e below T4 (mkF m 10 #[iv 99, rv w2, iv 7, iv 1, rv w1] [(.int 1)]) _
    refine XS.iloadN X4.here hx rfl (hb hby d1_10) rfl ?_
    show SF p e below T4 (mkF m 11 #[iv 99, rv w2, iv 7, iv 1, rv w1] [(.int 7), (.int 1)]) _
    refine XS.icmpNo X4.here hx rfl (hb hby d1_11) rfl (tlt (by decide : (1 : Int32) < (7 : Int32))).2.1 ?_
    show SF p e below T4 (mkF m 14 #[iv 99, rv w2, iv 7, iv 1, rv w1] []) _
    refine XS.aloadN X4.here hx rfl (hb hby d1_14) rfl rfl ?_
    show SF p e below T4 (mkF m 15 #[iv 99, rv w2, iv 7, iv 1, rv w1] [(.ref w2)]) _
    refine XS.iloadN X4.here hx rfl (hb hby d1_15) rfl ?_
    show SF p e below T4 (mkF m 16 #[iv 99, rv w2, iv 7, iv 1, rv w1] [(.int 1), (.ref w2)]) _
    refine X4.aaload hx (j := (1 : Int32)) (v := (.ref w4)) (by rw [e4]; exact Ar5.1) (State.isArrayOf_alike hZ.alike Ar5.2.1) rfl Ar5.2.2 hin5 hat5 (g := (mkF m 16 #[iv 99, rv w2, iv 7, iv 1, rv w1] [(.int 1), (.ref w2)])) rfl rfl (hb hby d1_16) _ ?_
    show SF p e below T4 (mkF m 17 #[iv 99, rv w2, iv 7, iv 1, rv w1] [(.ref w4)]) _
    refine XS.astore X4.here hx rfl (hb hby d1_17) rfl rfl (l' := #[iv 99, rv w2, iv 7, iv 1, rv w4]) rfl ?_
    show SF p e below T4 (mkF m 19 #[iv 99, rv w2, iv 7, iv 1, rv w4] []) _
    refine XS.aload X4.here hx rfl (hb hby d1_19) rfl rfl ?_
    show SF p e below T4 (mkF m 21 #[iv 99, rv w2, iv 7, iv 1, rv w4] [(.ref w4)]) _
    refine st6 _ ?_
    show SF p e below T6 (mkF m 24 #[iv 99, rv w2, iv 7, iv 1, rv w4] [(.int 100)]) _
    refine XS.iloadN X6.here hx rfl (hb hby d1_24) rfl ?_
    show SF p e below T6 (mkF m 25 #[iv 99, rv w2, iv 7, iv 1, rv w4] [(.int 99), (.int 100)]) _
    refine XS.icmpYes X6.here hx rfl (pc0 := 25) (pc' := 31) rfl (hb hby d1_25) rfl (feq (by decide : ¬ ((100 : Int32) = (99 : Int32)))).2 (by decide) (by decide) ?_
    show SF p e below T6 (mkF m 31 #[iv 99, rv w2, iv 7, iv 1, rv w4] []) _
    refine XS.iinc X6.here hx rfl (hb hby d1_31) rfl (l' := #[iv 99, rv w2, iv 7, iv ((1 : Int32) + (1 : Int32)), rv w4]) rfl ?_
    show SF p e below T6 (mkF m 34 #[iv 99, rv w2, iv 7, iv ((1 : Int32) + (1 : Int32)), rv w4] []) _
    rw [show ((1 : Int32) + (1 : Int32)) = (2 : Int32) from by decide]
    show SF p e below T6 (mkF m 34 #[iv 99, rv w2, iv 7, iv 2, rv w4] []) _
    refine XS.goto X6.here hx rfl (pc0 := 34) (pc' := 9) rfl (hb hby d1_34) (by decide) (by decide) ?_
    show SF p e below T6 (mkF m 9 #[iv 99, rv w2, iv 7, iv 2, rv w4] []) _
    refine XS.iloadN X6.here hx rfl (hb hby d1_9) rfl ?_
    show SF p e below T6 (mkF m 10 #[iv 99, rv w2, iv 7, iv 2, rv w4] [(.int 2)]) _
    refine XS.iloadN X6.here hx rfl (hb hby d1_10) rfl ?_
    show SF p e below T6 (mkF m 11 #[iv 99, rv w2, iv 7, iv 2, rv w4] [(.int 7), (.int 2)]) _
    refine XS.icmpNo X6.here hx rfl (hb hby d1_11) rfl (tlt (by decide : (2 : Int32) < (7 : Int32))).2.1 ?_
    show SF p e below T6 (mkF m 14 #[iv 99, rv w2, iv 7, iv 2, rv w4] []) _
    refine XS.aloadN X6.here hx rfl (hb hby d1_14) rfl rfl ?_
    show SF p e below T6 (mkF m 15 #[iv 99, rv w2, iv 7, iv 2, rv w4] [(.ref w2)]) _
    refine XS.iloadN X6.here hx rfl (hb hby d1_15) rfl ?_
    show SF p e below T6 (mkF m 16 #[iv 99, rv w2, iv 7, iv 2, rv w4] [(.int 2), (.ref w2)]) _
    refine X6.aaload hx (j := (2 : Int32)) (v := (.ref w5)) (by rw [e6]; exact Ar7.1) (State.isArrayOf_alike hZ.alike Ar7.2.1) rfl Ar7.2.2 hin7 hat7 (g := (mkF m 16 #[iv 99, rv w2, iv 7, iv 2, rv w4] [(.int 2), (.ref w2)])) rfl rfl (hb hby d1_16) _ ?_
    show SF p e below T6 (mkF m 17 #[iv 99, rv w2, iv 7, iv 2, rv w4] [(.ref w5)]) _
    refine XS.astore X6.here hx rfl (hb hby d1_17) rfl rfl (l' := #[iv 99, rv w2, iv 7, iv 2, rv w5]) rfl ?_
    show SF p e below T6 (mkF m 19 #[iv 99, rv w2, iv 7, iv 2, rv w5] []) _
    refine XS.aload X6.here hx rfl (hb hby d1_19) rfl rfl ?_
    show SF p e below T6 (mkF m 21 #[iv 99, rv w2, iv 7, iv 2, rv w5] [(.ref w5)]) _
    refine st8 _ ?_
    show SF p e below T8 (mkF m 24 #[iv 99, rv w2, iv 7, iv 2, rv w5] [(.int 108)]) _
    refine XS.iloadN X8.here hx rfl (hb hby d1_24) rfl ?_
    show SF p e below T8 (mkF m 25 #[iv 99, rv w2, iv 7, iv 2, rv w5] [(.int 99), (.int 108)]) _
    refine XS.icmpYes X8.here hx rfl (pc0 := 25) (pc' := 31) rfl (hb hby d1_25) rfl (feq (by decide : ¬ ((108 : Int32) = (99 : Int32)))).2 (by decide) (by decide) ?_
    show SF p e below T8 (mkF m 31 #[iv 99, rv w2, iv 7, iv 2, rv w5] []) _
    refine XS.iinc X8.here hx rfl (hb hby d1_31) rfl (l' := #[iv 99, rv w2, iv 7, iv ((2 : Int32) + (1 : Int32)), rv w5]) rfl ?_
    show SF p e below T8 (mkF m 34 #[iv 99, rv w2, iv 7, iv ((2 : Int32) + (1 : Int32)), rv w5] []) _
    rw [show ((2 : Int32) + (1 : Int32)) = (3 : Int32) from by decide]
    show SF p e below T8 (mkF m 34 #[iv 99, rv w2, iv 7, iv 3, rv w5] []) _
    refine XS.goto X8.here hx rfl (pc0 := 34) (pc' := 9) rfl (hb hby d1_34) (by decide) (by decide) ?_
    show SF p e below T8 (mkF m 9 #[iv 99, rv w2, iv 7, iv 3, rv w5] []) _
    refine XS.iloadN X8.here hx rfl (hb hby d1_9) rfl ?_
    show SF p e below T8 (mkF m 10 #[iv 99, rv w2, iv 7, iv 3, rv w5] [(.int 3)]) _
    refine XS.iloadN X8.here hx rfl (hb hby d1_10) rfl ?_
    show SF p e below T8 (mkF m 11 #[iv 99, rv w2, iv 7, iv 3, rv w5] [(.int 7), (.int 3)]) _
    refine XS.icmpNo X8.here hx rfl (hb hby d1_11) rfl (tlt (by decide : (3 : Int32) < (7 : Int32))).2.1 ?_
    show SF p e below T8 (mkF m 14 #[iv 99, rv w2, iv 7, iv 3, rv w5] []) _
    refine XS.aloadN X8.here hx rfl (hb hby d1_14) rfl rfl ?_
    show SF p e below T8 (mkF m 15 #[iv 99, rv w2, iv 7, iv 3, rv w5] [(.ref w2)]) _
    refine XS.iloadN X8.here hx rfl (hb hby d1_15) rfl ?_
    show SF p e below T8 (mkF m 16 #[iv 99, rv w2, iv 7, iv 3, rv w5] [(.int 3), (.ref w2)]) _
    refine X8.aaload hx (j := (3 : Int32)) (v := (.ref w3)) (by rw [e8]; exact Ar9.1) (State.isArrayOf_alike hZ.alike Ar9.2.1) rfl Ar9.2.2 hin9 hat9 (g := (mkF m 16 #[iv 99, rv w2, iv 7, iv 3, rv w5] [(.int 3), (.ref w2)])) rfl rfl (hb hby d1_16) _ ?_
    show SF p e below T8 (mkF m 17 #[iv 99, rv w2, iv 7, iv 3, rv w5] [(.ref w3)]) _
    refine XS.astore X8.here hx rfl (hb hby d1_17) rfl rfl (l' := #[iv 99, rv w2, iv 7, iv 3, rv w3]) rfl ?_
    show SF p e below T8 (mkF m 19 #[iv 99, rv w2, iv 7, iv 3, rv w3] []) _
    refine XS.aload X8.here hx rfl (hb hby d1_19) rfl rfl ?_
    show SF p e below T8 (mkF m 21 #[iv 99, rv w2, iv 7, iv 3, rv w3] [(.ref w3)]) _
    refine st10 _ ?_
    show SF p e below T10 (mkF m 24 #[iv 99, rv w2, iv 7, iv 3, rv w3] [(.int 99)]) _
    refine XS.iloadN X10.here hx rfl (hb hby d1_24) rfl ?_
    show SF p e below T10 (mkF m 25 #[iv 99, rv w2, iv 7, iv 3, rv w3] [(.int 99), (.int 99)]) _
    refine XS.icmpNo X10.here hx rfl (hb hby d1_25) rfl (teq (by decide : (99 : Int32) = (99 : Int32))).2 ?_
    show SF p e below T10 (mkF m 28 #[iv 99, rv w2, iv 7, iv 3, rv w3] []) _
    refine XS.aload X10.here hx rfl (hb hby d1_28) rfl rfl ?_
    show SF p e below T10 (mkF m 30 #[iv 99, rv w2, iv 7, iv 3, rv w3] [(.ref w3)]) _
    exact own_retR X10 hx Bd.returns rfl rfl (hb hby d1_30) hr
  · show Q1_7 Z w2 kw2 w1 w4 w5 w3 w7 w6 w8 h0 n0 _ T10.heap _
    rw [e10]
    exact ⟨rfl, N0, rfl⟩
-- FileType.lsLetter 
def Q2_8 (Z : State) (w3 : Addr) (h0 : Heap) (n0 : Nat) (v : Option Value) (h : Heap) (L : List Loc) : Prop := v = some (.int 99) ∧ Fr n0 L ∧ h = h0
set_option maxRecDepth 65536 in
set_option maxHeartbeats 40000000 in
theorem rm2_8 (l : Launch) (Z : State) (a0 : Array Value) (hw : HW Z a0) (ws : List Jvm.Cond) (w3 : Addr) (h0 : Heap) (n0 : Nat) (Z0 : n0 ≤ h0.size) (F_w3_lsLetter : Fld Z Z.heap w3 "com/example/umask/umask/FileType" "lsLetter" "C" (.int 99)) (P2 : Old Z n0 h0) :
    MF l Z (⟨"com/example/umask/umask/FileType", "lsLetter", "()C"⟩ : MethodName) (Jvm.Cond.code (⟨"com/example/umask/umask/FileType", "lsLetter", "()C"⟩ : MethodName) prog_16_method_4_code 1 (some .char)) ws ({ frames := 0, cells := 0, slots := 0, locals := 0 } : Room) #[(.ref w3)] h0 (Q2_8 Z w3 h0 n0) := by
  refine MetFree.of_bodySF (plainFor_of_name pn_0) hisR ?_
  intro p e s m args below meth c s₁ Bd hml0 hP hK
  obtain ⟨rfl, hZ, hh⟩ := hP
  have hx := Bd.exec
  have hby := Bd.bytes
  have hml : c.maxLocals = 1 := hml0
  have hown : s.vm.findClass "com/example/umask/umask/FileType" = some m.cls := findClass_of_methodNamed Bd.named
  have hnm := (name_of_methodNamed Bd.named Bd.method).1
  have X0 : Stand p l e ({ frames := 0, cells := 0, slots := 0, locals := 0 } : Room) s m #[(.ref w3)] below meth c s₁ [] 0 0 := Stand.of_body Bd
  have e0 : s₁.heap = h0 := by rw [← hh, Bd.state]; rfl
  have N0 := Fr.nil n0
  have pre0 : ∀ t, SF p e below s₁ (mkF m 0 #[rv w3] []) t → SF p e below s₁ (entryFrame m #[(.ref w3)] 1) t := fun t k => castTop (ef_1 m w3) k
  obtain ⟨T1, X1, e1, st1⟩ := getF X0 hx hZ hown (host := "") (Or.inl (tw hw 9 rfl)) Via.refl e0 (F_w3_lsLetter.ext P2.2) (g := (mkF m 1 #[rv w3] [(.ref w3)])) rfl rfl (hb hby d2_1)
  obtain ⟨fs, hr, hrun, hended, hW, hsame⟩ := X1.leave (v := some (.int 99)) (fun h => by rw [Bd.returns] at h; cases h)
  refine ⟨_, _, pre0 _ ?_, hrun, hended, _, _, rfl, ?_, ⟨_, rfl⟩, hW, hsame.mono (by decide) (by decide)⟩
  · show SF p e below s₁ (mkF m 0 #[rv w3] []) _
    refine XS.aloadN X0.here hx rfl (hb hby d2_0) rfl rfl ?_
    show SF p e below s₁ (mkF m 1 #[rv w3] [(.ref w3)]) _
    refine st1 _ ?_
    show SF p e below T1 (mkF m 4 #[rv w3] [(.int 99)]) _
    exact retN X1 hx (t := .char) Bd.returns (by simp) (hb hby d2_4) hr
  · show Q2_8 Z w3 h0 n0 _ T1.heap _
    rw [e1]
    exact ⟨rfl, N0, rfl⟩
-- FileType.fromLsLetter 
def Q1_9 (Z : State) (w2 : Addr) (kw2 : ClassId) (w1 : Addr) (w4 : Addr) (w5 : Addr) (w3 : Addr) (w7 : Addr) (w6 : Addr) (w8 : Addr) (h0 : Heap) (n0 : Nat) (v : Option Value) (h : Heap) (L : List Loc) : Prop := v = some (.ref w7) ∧ Fr n0 L ∧ h = h0
set_option maxRecDepth 65536 in
set_option maxHeartbeats 40000000 in
theorem rm1_9 (l : Launch) (Z : State) (a0 : Array Value) (hw : HW Z a0) (ws : List Jvm.Cond) (w2 : Addr) (kw2 : ClassId) (w1 : Addr) (w4 : Addr) (w5 : Addr) (w3 : Addr) (w7 : Addr) (w6 : Addr) (w8 : Addr) (h0 : Heap) (n0 : Nat) (Z0 : n0 ≤ h0.size) (S2 : Sta Z Z.heap "com/example/umask/umask/FileType" "TYPES" "[Lcom/example/umask/umask/FileType;" (.ref w2)) (P2 : Old Z n0 h0) (V_w2 : Arv Z Z.heap w2 kw2 (.object "com/example/umask/umask/FileType") (7 : Int32) [(.ref w1), (.ref w4), (.ref w5), (.ref w3), (.ref w7), (.ref w6), (.ref w8)] .null) (F_w1_lsLetter : Fld Z Z.heap w1 "com/example/umask/umask/FileType" "lsLetter" "C" (.int 45)) (F_w4_lsLetter : Fld Z Z.heap w4 "com/example/umask/umask/FileType" "lsLetter" "C" (.int 100)) (F_w5_lsLetter : Fld Z Z.heap w5 "com/example/umask/umask/FileType" "lsLetter" "C" (.int 108)) (F_w3_lsLetter : Fld Z Z.heap w3 "com/example/umask/umask/FileType" "lsLetter" "C" (.int 99)) (F_w7_lsLetter : Fld Z Z.heap w7 "com/example/umask/umask/FileType" "lsLetter" "C" (.int 98)) :
    MF l Z (⟨"com/example/umask/umask/FileType", "fromLsLetter", "(C)Lcom/example/umask/umask/FileType;"⟩ : MethodName) (Jvm.Cond.code (⟨"com/example/umask/umask/FileType", "fromLsLetter", "(C)Lcom/example/umask/umask/FileType;"⟩ : MethodName) prog_16_method_5_code 5 (some (.object "com/example/umask/umask/FileType"))) ws ({ frames := 0, cells := 0, slots := 0, locals := 0 } : Room) #[(.int 98)] h0 (Q1_9 Z w2 kw2 w1 w4 w5 w3 w7 w6 w8 h0 n0) := by
  refine MetFree.of_bodySF (plainFor_of_name pn_0) hisR ?_
  intro p e s m args below meth c s₁ Bd hml0 hP hK
  obtain ⟨rfl, hZ, hh⟩ := hP
  have hx := Bd.exec
  have hby := Bd.bytes
  have hml : c.maxLocals = 5 := hml0
  have hown : s.vm.findClass "com/example/umask/umask/FileType" = some m.cls := findClass_of_methodNamed Bd.named
  have hnm := (name_of_methodNamed Bd.named Bd.method).1
  have X0 : Stand p l e ({ frames := 0, cells := 0, slots := 0, locals := 0 } : Room) s m #[(.int 98)] below meth c s₁ [] 0 0 := Stand.of_body Bd
  have e0 : s₁.heap = h0 := by rw [← hh, Bd.state]; rfl
  have N0 := Fr.nil n0
  have pre0 : ∀ t, SF p e below s₁ (mkF m 0 #[iv 98, .unset, .unset, .unset, .unset] []) t → SF p e below s₁ (entryFrame m #[(.int 98)] 5) t := fun t k => castTop (ef_0 m (98 : Int32)) k
  obtain ⟨T1, X1, e1, st1⟩ := getS2 X0 hx hZ hown (host := "") (Or.inl (tw hw 7 rfl)) Via.refl e0 (S2.ext P2.2) (g := (mkF m 0 #[iv 98, .unset, .unset, .unset, .unset] [])) rfl (hb hby d1_0)
  obtain ⟨cl2, Ar2, q2, S2, N2z, H2, G2⟩ := (V_w2.ext P2.2)
  obtain ⟨cl3, Ar3, q3, S3, N3z, H3, G3⟩ := (V_w2.ext P2.2)
  have hin3 : ¬ ((0 : Int32) < 0 ∨ cl3.slots.size ≤ ((0 : Int32)).toNatClampNeg) := inb_of S3 ⟨by decide, by decide⟩
  have hat3 : cl3.slots[((0 : Int32)).toNatClampNeg]? = some (.ref w1) := Has.at H3 hin3 rfl
  obtain ⟨T4, X4, e4, st4⟩ := getF X1 hx hZ hown (host := "") (Or.inl (tw hw 9 rfl)) Via.refl e1 (F_w1_lsLetter.ext P2.2) (g := (mkF m 21 #[iv 98, rv w2, iv 7, iv 0, rv w1] [(.ref w1)])) rfl rfl (hb hby d1_21)
  obtain ⟨cl5, Ar5, q5, S5, N5z, H5, G5⟩ := (V_w2.ext P2.2)
  have hin5 : ¬ ((1 : Int32) < 0 ∨ cl5.slots.size ≤ ((1 : Int32)).toNatClampNeg) := inb_of S5 ⟨by decide, by decide⟩
  have hat5 : cl5.slots[((1 : Int32)).toNatClampNeg]? = some (.ref w4) := Has.at H5 hin5 rfl
  obtain ⟨T6, X6, e6, st6⟩ := getF X4 hx hZ hown (host := "") (Or.inl (tw hw 9 rfl)) Via.refl e4 (F_w4_lsLetter.ext P2.2) (g := (mkF m 21 #[iv 98, rv w2, iv 7, iv 1, rv w4] [(.ref w4)])) rfl rfl (hb hby d1_21)
  obtain ⟨cl7, Ar7, q7, S7, N7z, H7, G7⟩ := (V_w2.ext P2.2)
  have hin7 : ¬ ((2 : Int32) < 0 ∨ cl7.slots.size ≤ ((2 : Int32)).toNatClampNeg) := inb_of S7 ⟨by decide, by decide⟩
  have hat7 : cl7.slots[((2 : Int32)).toNatClampNeg]? = some (.ref w5) := Has.at H7 hin7 rfl
  obtain ⟨T8, X8, e8, st8⟩ := getF X6 hx hZ hown (host := "") (Or.inl (tw hw 9 rfl)) Via.refl e6 (F_w5_lsLetter.ext P2.2) (g := (mkF m 21 #[iv 98, rv w2, iv 7, iv 2, rv w5] [(.ref w5)])) rfl rfl (hb hby d1_21)
  obtain ⟨cl9, Ar9, q9, S9, N9z, H9, G9⟩ := (V_w2.ext P2.2)
  have hin9 : ¬ ((3 : Int32) < 0 ∨ cl9.slots.size ≤ ((3 : Int32)).toNatClampNeg) := inb_of S9 ⟨by decide, by decide⟩
  have hat9 : cl9.slots[((3 : Int32)).toNatClampNeg]? = some (.ref w3) := Has.at H9 hin9 rfl
  obtain ⟨T10, X10, e10, st10⟩ := getF X8 hx hZ hown (host := "") (Or.inl (tw hw 9 rfl)) Via.refl e8 (F_w3_lsLetter.ext P2.2) (g := (mkF m 21 #[iv 98, rv w2, iv 7, iv 3, rv w3] [(.ref w3)])) rfl rfl (hb hby d1_21)
  obtain ⟨cl11, Ar11, q11, S11, N11z, H11, G11⟩ := (V_w2.ext P2.2)
  have hin11 : ¬ ((4 : Int32) < 0 ∨ cl11.slots.size ≤ ((4 : Int32)).toNatClampNeg) := inb_of S11 ⟨by decide, by decide⟩
  have hat11 : cl11.slots[((4 : Int32)).toNatClampNeg]? = some (.ref w7) := Has.at H11 hin11 rfl
  obtain ⟨T12, X12, e12, st12⟩ := getF X10 hx hZ hown (host := "") (Or.inl (tw hw 9 rfl)) Via.refl e10 (F_w7_lsLetter.ext P2.2) (g := (mkF m 21 #[iv 98, rv w2, iv 7, iv 4, rv w7] [(.ref w7)])) rfl rfl (hb hby d1_21)
  obtain ⟨fs, hr, hrun, hended, hW, hsame⟩ := X12.leave (v := some (.ref w7)) (fun h => by rw [Bd.returns] at h; cases h)
  refine ⟨_, _, pre0 _ ?_, hrun, hended, _, _, rfl, ?_, ⟨_, rfl⟩, hW, hsame.mono (by decide) (by decide)⟩
  · show SF p e below s₁ (mkF m 0 #[iv 98, .unset, .unset, .unset, .unset] []) _
    refine st1 _ ?_
    show SF p e below T1 (mkF m 3 #[iv 98, .unset, .unset, .unset, .unset] [(.ref w2)]) _
    refine XS.astoreN X1.here hx rfl (hb hby d1_3) rfl rfl (l' := #[iv 98, rv w2, .unset, .unset, .unset]) rfl ?_
    show SF p e below T1 (mkF m 4 #[iv 98, rv w2, .unset, .unset, .unset] []) _
    refine XS.aloadN X1.here hx rfl (hb hby d1_4) rfl rfl ?_
    show SF p e below T1 (mkF m 5 #[iv 98, rv w2, .unset, .unset, .unset] [(.ref w2)]) _
    refine X1.arraylength hx (by rw [e1]; exact Ar2.1) (State.isArrayOf_alike hZ.alike Ar2.2.1) (g := (mkF m 5 #[iv 98, rv w2, .unset, .unset, .unset] [(.ref w2)])) rfl rfl (hb hby d1_5) _ ?_
    rw [len_of S2 N2z]
    show SF p e below T1 (mkF m 6 #[iv 98, rv w2, .unset, .unset, .unset] [(.int 7)]) _
    refine XS.istoreN X1.here hx rfl (hb hby d1_6) rfl (l' := #[iv 98, rv w2, iv 7, .unset, .unset]) rfl ?_
    show SF p e below T1 (mkF m 7 #[iv 98, rv w2, iv 7, .unset, .unset] []) _
    refine XS.iconst X1.here hx rfl (hb hby d1_7) ?_
    show SF p e below T1 (mkF m 8 #[iv 98, rv w2, iv 7, .unset, .unset] [(.int 0)]) _
    refine XS.istoreN X1.here hx rfl (hb hby d1_8) rfl (l' := #[iv 98, rv w2, iv 7, iv 0, .unset]) rfl ?_
    show SF p e below T1 (mkF m 9 #[iv 98, rv w2, iv 7, iv 0, .unset] []) _
    refine XS.iloadN X1.here hx rfl (hb hby d1_9) rfl ?_
    show SF p e below T1 (mkF m 10 #[iv 98, rv w2, iv 7, iv 0, .unset] [(.int 0)]) _
    refine XS.iloadN X1.here hx rfl (hb hby d1_10) rfl ?_
    show SF p e below T1 (mkF m 11 #[iv 98, rv w2, iv 7, iv 0, .unset] [(.int 7), (.int 0)]) _
    refine XS.icmpNo X1.here hx rfl (hb hby d1_11) rfl (tlt (by decide : (0 : Int32) < (7 : Int32))).2.1 ?_
    show SF p e below T1 (mkF m 14 #[iv 98, rv w2, iv 7, iv 0, .unset] []) _
    refine XS.aloadN X1.here hx rfl (hb hby d1_14) rfl rfl ?_
    show SF p e below T1 (mkF m 15 #[iv 98, rv w2, iv 7, iv 0, .unset] [(.ref w2)]) _
    refine XS.iloadN X1.here hx rfl (hb hby d1_15) rfl ?_
    show SF p e below T1 (mkF m 16 #[iv 98, rv w2, iv 7, iv 0, .unset] [(.int 0), (.ref w2)]) _
    refine X1.aaload hx (j := (0 : Int32)) (v := (.ref w1)) (by rw [e1]; exact Ar3.1) (State.isArrayOf_alike hZ.alike Ar3.2.1) rfl Ar3.2.2 hin3 hat3 (g := (mkF m 16 #[iv 98, rv w2, iv 7, iv 0, .unset] [(.int 0), (.ref w2)])) rfl rfl (hb hby d1_16) _ ?_
    show SF p e below T1 (mkF m 17 #[iv 98, rv w2, iv 7, iv 0, .unset] [(.ref w1)]) _
    refine XS.astore X1.here hx rfl (hb hby d1_17) rfl rfl (l' := #[iv 98, rv w2, iv 7, iv 0, rv w1]) rfl ?_
    show SF p e below T1 (mkF m 19 #[iv 98, rv w2, iv 7, iv 0, rv w1] []) _
    refine XS.aload X1.here hx rfl (hb hby d1_19) rfl rfl ?_
    show SF p e below T1 (mkF m 21 #[iv 98, rv w2, iv 7, iv 0, rv w1] [(.ref w1)]) _
    refine st4 _ ?_
    show SF p e below T4 (mkF m 24 #[iv 98, rv w2, iv 7, iv 0, rv w1] [(.int 45)]) _
    refine XS.iloadN X4.here hx rfl (hb hby d1_24) rfl ?_
    show SF p e below T4 (mkF m 25 #[iv 98, rv w2, iv 7, iv 0, rv w1] [(.int 98), (.int 45)]) _
    refine XS.icmpYes X4.here hx rfl (pc0 := 25) (pc' := 31) rfl (hb hby d1_25) rfl (feq (by decide : ¬ ((45 : Int32) = (98 : Int32)))).2 (by decide) (by decide) ?_
    show SF p e below T4 (mkF m 31 #[iv 98, rv w2, iv 7, iv 0, rv w1] []) _
    refine XS.iinc X4.here hx rfl (hb hby d1_31) rfl (l' := #[iv 98, rv w2, iv 7, iv ((0 : Int32) + (1 : Int32)), rv w1]) rfl ?_
    show SF p e below T4 (mkF m 34 #[iv 98, rv w2, iv 7, iv ((0 : Int32) + (1 : Int32)), rv w1] []) _
    rw [show ((0 : Int32) + (1 : Int32)) = (1 : Int32) from by decide]
    show SF p e below T4 (mkF m 34 #[iv 98, rv w2, iv 7, iv 1, rv w1] []) _
    refine XS.goto X4.here hx rfl (pc0 := 34) (pc' := 9) rfl (hb hby d1_34) (by decide) (by decide) ?_
    show SF p e below T4 (mkF m 9 #[iv 98, rv w2, iv 7, iv 1, rv w1] []) _
    refine XS.iloadN X4.here hx rfl (hb hby d1_9) rfl ?_
    show SF p e below T4 (mkF m 10 #[iv 98, rv w2, iv 7, iv 1, rv w1] [(.int 1)]) _
    refine XS.iloadN X4.here hx rfl (hb hby d1_10) rfl ?_
    show SF p e below T4 (mkF m 11 #[iv 98, rv w2, iv 7, iv 1, rv w1] [(.int 7), (.int 1)]) _
    refine XS.icmpNo X4.here hx rfl (hb hby d1_11) rfl (tlt (by decide : (1 : Int32) < (7 : Int32))).2.1 ?_
    show SF p e below T4 (mkF m 14 #[iv 98, rv w2, iv 7, iv 1, rv w1] []) _
    refine XS.aloadN X4.here hx rfl (hb hby d1_14) rfl rfl ?_
    show SF p e below T4 (mkF m 15 #[iv 98, rv w2, iv 7, iv 1, rv w1] [(.ref w2)]) _
    refine XS.iloadN X4.here hx rfl (hb hby d1_15) rfl ?_
    show SF p e below T4 (mkF m 16 #[iv 98, rv w2, iv 7, iv 1, rv w1] [(.int 1), (.ref w2)]) _
    refine X4.aaload hx (j := (1 : Int32)) (v := (.ref w4)) (by rw [e4]; exact Ar5.1) (State.isArrayOf_alike hZ.alike Ar5.2.1) rfl Ar5.2.2 hin5 hat5 (g := (mkF m 16 #[iv 98, rv w2, iv 7, iv 1, rv w1] [(.int 1), (.ref w2)])) rfl rfl (hb hby d1_16) _ ?_
    show SF p e below T4 (mkF m 17 #[iv 98, rv w2, iv 7, iv 1, rv w1] [(.ref w4)]) _
    refine XS.astore X4.here hx rfl (hb hby d1_17) rfl rfl (l' := #[iv 98, rv w2, iv 7, iv 1, rv w4]) rfl ?_
    show SF p e below T4 (mkF m 19 #[iv 98, rv w2, iv 7, iv 1, rv w4] []) _
    refine XS.aload X4.here hx rfl (hb hby d1_19) rfl rfl ?_
    show SF p e below T4 (mkF m 21 #[iv 98, rv w2, iv 7, iv 1, rv w4] [(.ref w4)]) _
    refine st6 _ ?_
    show SF p e below T6 (mkF m 24 #[iv 98, rv w2, iv 7, iv 1, rv w4] [(.int 100)]) _
    refine XS.iloadN X6.here hx rfl (hb hby d1_24) rfl ?_
    show SF p e below T6 (mkF m 25 #[iv 98, rv w2, iv 7, iv 1, rv w4] [(.int 98), (.int 100)]) _
    refine XS.icmpYes X6.here hx rfl (pc0 := 25) (pc' := 31) rfl (hb hby d1_25) rfl (feq (by decide : ¬ ((100 : Int32) = (98 : Int32)))).2 (by decide) (by decide) ?_
    show SF p e below T6 (mkF m 31 #[iv 98, rv w2, iv 7, iv 1, rv w4] []) _
    refine XS.iinc X6.here hx rfl (hb hby d1_31) rfl (l' := #[iv 98, rv w2, iv 7, iv ((1 : Int32) + (1 : Int32)), rv w4]) rfl ?_
    show SF p e below T6 (mkF m 34 #[iv 98, rv w2, iv 7, iv ((1 : Int32) + (1 : Int32)), rv w4] []) _
    rw [show ((1 : Int32) + (1 : Int32)) = (2 : Int32) from by decide]
    show SF p e below T6 (mkF m 34 #[iv 98, rv w2, iv 7, iv 2, rv w4] []) _
    refine XS.goto X6.here hx rfl (pc0 := 34) (pc' := 9) rfl (hb hby d1_34) (by decide) (by decide) ?_
    show SF p e below T6 (mkF m 9 #[iv 98, rv w2, iv 7, iv 2, rv w4] []) _
    refine XS.iloadN X6.here hx rfl (hb hby d1_9) rfl ?_
    show SF p e below T6 (mkF m 10 #[iv 98, rv w2, iv 7, iv 2, rv w4] [(.int 2)]) _
    refine XS.iloadN X6.here hx rfl (hb hby d1_10) rfl ?_
    show SF p e below T6 (mkF m 11 #[iv 98, rv w2, iv 7, iv 2, rv w4] [(.int 7), (.int 2)]) _
    refine XS.icmpNo X6.here hx rfl (hb hby d1_11) rfl (tlt (by decide : (2 : Int32) < (7 : Int32))).2.1 ?_
    show SF p e below T6 (mkF m 14 #[iv 98, rv w2, iv 7, iv 2, rv w4] []) _
    refine XS.aloadN X6.here hx rfl (hb hby d1_14) rfl rfl ?_
    show SF p e below T6 (mkF m 15 #[iv 98, rv w2, iv 7, iv 2, rv w4] [(.ref w2)]) _
    refine XS.iloadN X6.here hx rfl (hb hby d1_15) rfl ?_
    show SF p e below T6 (mkF m 16 #[iv 98, rv w2, iv 7, iv 2, rv w4] [(.int 2), (.ref w2)]) _
    refine X6.aaload hx (j := (2 : Int32)) (v := (.ref w5)) (by rw [e6]; exact Ar7.1) (State.isArrayOf_alike hZ.alike Ar7.2.1) rfl Ar7.2.2 hin7 hat7 (g := (mkF m 16 #[iv 98, rv w2, iv 7, iv 2, rv w4] [(.int 2), (.ref w2)])) rfl rfl (hb hby d1_16) _ ?_
    show SF p e below T6 (mkF m 17 #[iv 98, rv w2, iv 7, iv 2, rv w4] [(.ref w5)]) _
    refine XS.astore X6.here hx rfl (hb hby d1_17) rfl rfl (l' := #[iv 98, rv w2, iv 7, iv 2, rv w5]) rfl ?_
    show SF p e below T6 (mkF m 19 #[iv 98, rv w2, iv 7, iv 2, rv w5] []) _
    refine XS.aload X6.here hx rfl (hb hby d1_19) rfl rfl ?_
    show SF p e below T6 (mkF m 21 #[iv 98, rv w2, iv 7, iv 2, rv w5] [(.ref w5)]) _
    refine st8 _ ?_
    show SF p e below T8 (mkF m 24 #[iv 98, rv w2, iv 7, iv 2, rv w5] [(.int 108)]) _
    refine XS.iloadN X8.here hx rfl (hb hby d1_24) rfl ?_
    show SF p e below T8 (mkF m 25 #[iv 98, rv w2, iv 7, iv 2, rv w5] [(.int 98), (.int 108)]) _
    refine XS.icmpYes X8.here hx rfl (pc0 := 25) (pc' := 31) rfl (hb hby d1_25) rfl (feq (by decide : ¬ ((108 : Int32) = (98 : Int32)))).2 (by decide) (by decide) ?_
    show SF p e below T8 (mkF m 31 #[iv 98, rv w2, iv 7, iv 2, rv w5] []) _
    refine XS.iinc X8.here hx rfl (hb hby d1_31) rfl (l' := #[iv 98, rv w2, iv 7, iv ((2 : Int32) + (1 : Int32)), rv w5]) rfl ?_
    show SF p e below T8 (mkF m 34 #[iv 98, rv w2, iv 7, iv ((2 : Int32) + (1 : Int32)), rv w5] []) _
    rw [show ((2 : Int32) + (1 : Int32)) = (3 : Int32) from by decide]
    show SF p e below T8 (mkF m 34 #[iv 98, rv w2, iv 7, iv 3, rv w5] []) _
    refine XS.goto X8.here hx rfl (pc0 := 34) (pc' := 9) rfl (hb hby d1_34) (by decide) (by decide) ?_
    show SF p e below T8 (mkF m 9 #[iv 98, rv w2, iv 7, iv 3, rv w5] []) _
    refine XS.iloadN X8.here hx rfl (hb hby d1_9) rfl ?_
    show SF p e below T8 (mkF m 10 #[iv 98, rv w2, iv 7, iv 3, rv w5] [(.int 3)]) _
    refine XS.iloadN X8.here hx rfl (hb hby d1_10) rfl ?_
    show SF p e below T8 (mkF m 11 #[iv 98, rv w2, iv 7, iv 3, rv w5] [(.int 7), (.int 3)]) _
    refine XS.icmpNo X8.here hx rfl (hb hby d1_11) rfl (tlt (by decide : (3 : Int32) < (7 : Int32))).2.1 ?_
    show SF p e below T8 (mkF m 14 #[iv 98, rv w2, iv 7, iv 3, rv w5] []) _
    refine XS.aloadN X8.here hx rfl (hb hby d1_14) rfl rfl ?_
    show SF p e below T8 (mkF m 15 #[iv 98, rv w2, iv 7, iv 3, rv w5] [(.ref w2)]) _
    refine XS.iloadN X8.here hx rfl (hb hby d1_15) rfl ?_
    show SF p e below T8 (mkF m 16 #[iv 98, rv w2, iv 7, iv 3, rv w5] [(.int 3), (.ref w2)]) _
    refine X8.aaload hx (j := (3 : Int32)) (v := (.ref w3)) (by rw [e8]; exact Ar9.1) (State.isArrayOf_alike hZ.alike Ar9.2.1) rfl Ar9.2.2 hin9 hat9 (g := (mkF m 16 #[iv 98, rv w2, iv 7, iv 3, rv w5] [(.int 3), (.ref w2)])) rfl rfl (hb hby d1_16) _ ?_
    show SF p e below T8 (mkF m 17 #[iv 98, rv w2, iv 7, iv 3, rv w5] [(.ref w3)]) _
    refine XS.astore X8.here hx rfl (hb hby d1_17) rfl rfl (l' := #[iv 98, rv w2, iv 7, iv 3, rv w3]) rfl ?_
    show SF p e below T8 (mkF m 19 #[iv 98, rv w2, iv 7, iv 3, rv w3] []) _
    refine XS.aload X8.here hx rfl (hb hby d1_19) rfl rfl ?_
    show SF p e below T8 (mkF m 21 #[iv 98, rv w2, iv 7, iv 3, rv w3] [(.ref w3)]) _
    refine st10 _ ?_
    show SF p e below T10 (mkF m 24 #[iv 98, rv w2, iv 7, iv 3, rv w3] [(.int 99)]) _
    refine XS.iloadN X10.here hx rfl (hb hby d1_24) rfl ?_
    show SF p e below T10 (mkF m 25 #[iv 98, rv w2, iv 7, iv 3, rv w3] [(.int 98), (.int 99)]) _
    refine XS.icmpYes X10.here hx rfl (pc0 := 25) (pc' := 31) rfl (hb hby d1_25) rfl (feq (by decide : ¬ ((99 : Int32) = (98 : Int32)))).2 (by decide) (by decide) ?_
    show SF p e below T10 (mkF m 31 #[iv 98, rv w2, iv 7, iv 3, rv w3] []) _
    refine XS.iinc X10.here hx rfl (hb hby d1_31) rfl (l' := #[iv 98, rv w2, iv 7, iv ((3 : Int32) + (1 : Int32)), rv w3]) rfl ?_
    show SF p e below T10 (mkF m 34 #[iv 98, rv w2, iv 7, iv ((3 : Int32) + (1 : Int32)), rv w3] []) _
    rw [show ((3 : Int32) + (1 : Int32)) = (4 : Int32) from by decide]
    show SF p e below T10 (mkF m 34 #[iv 98, rv w2, iv 7, iv 4, rv w3] []) _
    refine XS.goto X10.here hx rfl (pc0 := 34) (pc' := 9) rfl (hb hby d1_34) (by decide) (by decide) ?_
    show SF p e below T10 (mkF m 9 #[iv 98, rv w2, iv 7, iv 4, rv w3] []) _
    refine XS.iloadN X10.here hx rfl (hb hby d1_9) rfl ?_
    show SF p e below T10 (mkF m 10 #[iv 98, rv w2, iv 7, iv 4, rv w3] [(.int 4)]) _
    refine XS.iloadN X10.here hx rfl (hb hby d1_10) rfl ?_
    show SF p e below T10 (mkF m 11 #[iv 98, rv w2, iv 7, iv 4, rv w3] [(.int 7), (.int 4)]) _
    refine XS.icmpNo X10.here hx rfl (hb hby d1_11) rfl (tlt (by decide : (4 : Int32) < (7 : Int32))).2.1 ?_
    show SF p e below T10 (mkF m 14 #[iv 98, rv w2, iv 7, iv 4, rv w3] []) _
    refine XS.aloadN X10.here hx rfl (hb hby d1_14) rfl rfl ?_
    show SF p e below T10 (mkF m 15 #[iv 98, rv w2, iv 7, iv 4, rv w3] [(.ref w2)]) _
    refine XS.iloadN X10.here hx rfl (hb hby d1_15) rfl ?_
    show SF p e below T10 (mkF m 16 #[iv 98, rv w2, iv 7, iv 4, rv w3] [(.int 4), (.ref w2)]) _
    refine X10.aaload hx (j := (4 : Int32)) (v := (.ref w7)) (by rw [e10]; exact Ar11.1) (State.isArrayOf_alike hZ.alike Ar11.2.1) rfl Ar11.2.2 hin11 hat11 (g := (mkF m 16 #[iv 98, rv w2, iv 7, iv 4, rv w3] [(.int 4), (.ref w2)])) rfl rfl (hb hby d1_16) _ ?_
    show SF p e below T10 (mkF m 17 #[iv 98, rv w2, iv 7, iv 4, rv w3] [(.ref w7)]) _
    refine XS.astore X10.here hx rfl (hb hby d1_17) rfl rfl (l' := #[iv 98, rv w2, iv 7, iv 4, rv w7]) rfl ?_
    show SF p e below T10 (mkF m 19 #[iv 98, rv w2, iv 7, iv 4, rv w7] []) _
    refine XS.aload X10.here hx rfl (hb hby d1_19) rfl rfl ?_
    show SF p e below T10 (mkF m 21 #[iv 98, rv w2, iv 7, iv 4, rv w7] [(.ref w7)]) _
    refine st12 _ ?_
    show SF p e below T12 (mkF m 24 #[iv 98, rv w2, iv 7, iv 4, rv w7] [(.int 98)]) _
    refine XS.iloadN X12.here hx rfl (hb hby d1_24) rfl ?_
    show SF p e below T12 (mkF m 25 #[iv 98, rv w2, iv 7, iv 4, rv w7] [(.int 98), (.int 98)]) _
    refine XS.icmpNo X12.here hx rfl (hb hby d1_25) rfl (teq (by decide : (98 : Int32) = (98 : Int32))).2 ?_
    show SF p e below T12 (mkF m 28 #[iv 98, rv w2, iv 7, iv 4, rv w7] []) _
    refine XS.aload X12.here hx rfl (hb hby d1_28) rfl rfl ?_
    show SF p e below T12 (mkF m 30 #[iv 98, rv w2, iv 7, iv 4, rv w7] [(.ref w7)]) _
    exact own_retR X12 hx Bd.returns rfl rfl (hb hby d1_30) hr
  · show Q1_9 Z w2 kw2 w1 w4 w5 w3 w7 w6 w8 h0 n0 _ T12.heap _
    rw [e12]
    exact ⟨rfl, N0, rfl⟩
-- FileType.lsLetter 
def Q2_10 (Z : State) (w7 : Addr) (h0 : Heap) (n0 : Nat) (v : Option Value) (h : Heap) (L : List Loc) : Prop := v = some (.int 98) ∧ Fr n0 L ∧ h = h0
set_option maxRecDepth 65536 in
set_option maxHeartbeats 40000000 in
theorem rm2_10 (l : Launch) (Z : State) (a0 : Array Value) (hw : HW Z a0) (ws : List Jvm.Cond) (w7 : Addr) (h0 : Heap) (n0 : Nat) (Z0 : n0 ≤ h0.size) (F_w7_lsLetter : Fld Z Z.heap w7 "com/example/umask/umask/FileType" "lsLetter" "C" (.int 98)) (P2 : Old Z n0 h0) :
    MF l Z (⟨"com/example/umask/umask/FileType", "lsLetter", "()C"⟩ : MethodName) (Jvm.Cond.code (⟨"com/example/umask/umask/FileType", "lsLetter", "()C"⟩ : MethodName) prog_16_method_4_code 1 (some .char)) ws ({ frames := 0, cells := 0, slots := 0, locals := 0 } : Room) #[(.ref w7)] h0 (Q2_10 Z w7 h0 n0) := by
  refine MetFree.of_bodySF (plainFor_of_name pn_0) hisR ?_
  intro p e s m args below meth c s₁ Bd hml0 hP hK
  obtain ⟨rfl, hZ, hh⟩ := hP
  have hx := Bd.exec
  have hby := Bd.bytes
  have hml : c.maxLocals = 1 := hml0
  have hown : s.vm.findClass "com/example/umask/umask/FileType" = some m.cls := findClass_of_methodNamed Bd.named
  have hnm := (name_of_methodNamed Bd.named Bd.method).1
  have X0 : Stand p l e ({ frames := 0, cells := 0, slots := 0, locals := 0 } : Room) s m #[(.ref w7)] below meth c s₁ [] 0 0 := Stand.of_body Bd
  have e0 : s₁.heap = h0 := by rw [← hh, Bd.state]; rfl
  have N0 := Fr.nil n0
  have pre0 : ∀ t, SF p e below s₁ (mkF m 0 #[rv w7] []) t → SF p e below s₁ (entryFrame m #[(.ref w7)] 1) t := fun t k => castTop (ef_1 m w7) k
  obtain ⟨T1, X1, e1, st1⟩ := getF X0 hx hZ hown (host := "") (Or.inl (tw hw 9 rfl)) Via.refl e0 (F_w7_lsLetter.ext P2.2) (g := (mkF m 1 #[rv w7] [(.ref w7)])) rfl rfl (hb hby d2_1)
  obtain ⟨fs, hr, hrun, hended, hW, hsame⟩ := X1.leave (v := some (.int 98)) (fun h => by rw [Bd.returns] at h; cases h)
  refine ⟨_, _, pre0 _ ?_, hrun, hended, _, _, rfl, ?_, ⟨_, rfl⟩, hW, hsame.mono (by decide) (by decide)⟩
  · show SF p e below s₁ (mkF m 0 #[rv w7] []) _
    refine XS.aloadN X0.here hx rfl (hb hby d2_0) rfl rfl ?_
    show SF p e below s₁ (mkF m 1 #[rv w7] [(.ref w7)]) _
    refine st1 _ ?_
    show SF p e below T1 (mkF m 4 #[rv w7] [(.int 98)]) _
    exact retN X1 hx (t := .char) Bd.returns (by simp) (hb hby d2_4) hr
  · show Q2_10 Z w7 h0 n0 _ T1.heap _
    rw [e1]
    exact ⟨rfl, N0, rfl⟩
-- FileType.fromLsLetter 
def Q1_11 (Z : State) (w2 : Addr) (kw2 : ClassId) (w1 : Addr) (w4 : Addr) (w5 : Addr) (w3 : Addr) (w7 : Addr) (w6 : Addr) (w8 : Addr) (h0 : Heap) (n0 : Nat) (v : Option Value) (h : Heap) (L : List Loc) : Prop := v = some (.ref w6) ∧ Fr n0 L ∧ h = h0
set_option maxRecDepth 65536 in
set_option maxHeartbeats 40000000 in
theorem rm1_11 (l : Launch) (Z : State) (a0 : Array Value) (hw : HW Z a0) (ws : List Jvm.Cond) (w2 : Addr) (kw2 : ClassId) (w1 : Addr) (w4 : Addr) (w5 : Addr) (w3 : Addr) (w7 : Addr) (w6 : Addr) (w8 : Addr) (h0 : Heap) (n0 : Nat) (Z0 : n0 ≤ h0.size) (S2 : Sta Z Z.heap "com/example/umask/umask/FileType" "TYPES" "[Lcom/example/umask/umask/FileType;" (.ref w2)) (P2 : Old Z n0 h0) (V_w2 : Arv Z Z.heap w2 kw2 (.object "com/example/umask/umask/FileType") (7 : Int32) [(.ref w1), (.ref w4), (.ref w5), (.ref w3), (.ref w7), (.ref w6), (.ref w8)] .null) (F_w1_lsLetter : Fld Z Z.heap w1 "com/example/umask/umask/FileType" "lsLetter" "C" (.int 45)) (F_w4_lsLetter : Fld Z Z.heap w4 "com/example/umask/umask/FileType" "lsLetter" "C" (.int 100)) (F_w5_lsLetter : Fld Z Z.heap w5 "com/example/umask/umask/FileType" "lsLetter" "C" (.int 108)) (F_w3_lsLetter : Fld Z Z.heap w3 "com/example/umask/umask/FileType" "lsLetter" "C" (.int 99)) (F_w7_lsLetter : Fld Z Z.heap w7 "com/example/umask/umask/FileType" "lsLetter" "C" (.int 98)) (F_w6_lsLetter : Fld Z Z.heap w6 "com/example/umask/umask/FileType" "lsLetter" "C" (.int 112)) :
    MF l Z (⟨"com/example/umask/umask/FileType", "fromLsLetter", "(C)Lcom/example/umask/umask/FileType;"⟩ : MethodName) (Jvm.Cond.code (⟨"com/example/umask/umask/FileType", "fromLsLetter", "(C)Lcom/example/umask/umask/FileType;"⟩ : MethodName) prog_16_method_5_code 5 (some (.object "com/example/umask/umask/FileType"))) ws ({ frames := 0, cells := 0, slots := 0, locals := 0 } : Room) #[(.int 112)] h0 (Q1_11 Z w2 kw2 w1 w4 w5 w3 w7 w6 w8 h0 n0) := by
  refine MetFree.of_bodySF (plainFor_of_name pn_0) hisR ?_
  intro p e s m args below meth c s₁ Bd hml0 hP hK
  obtain ⟨rfl, hZ, hh⟩ := hP
  have hx := Bd.exec
  have hby := Bd.bytes
  have hml : c.maxLocals = 5 := hml0
  have hown : s.vm.findClass "com/example/umask/umask/FileType" = some m.cls := findClass_of_methodNamed Bd.named
  have hnm := (name_of_methodNamed Bd.named Bd.method).1
  have X0 : Stand p l e ({ frames := 0, cells := 0, slots := 0, locals := 0 } : Room) s m #[(.int 112)] below meth c s₁ [] 0 0 := Stand.of_body Bd
  have e0 : s₁.heap = h0 := by rw [← hh, Bd.state]; rfl
  have N0 := Fr.nil n0
  have pre0 : ∀ t, SF p e below s₁ (mkF m 0 #[iv 112, .unset, .unset, .unset, .unset] []) t → SF p e below s₁ (entryFrame m #[(.int 112)] 5) t := fun t k => castTop (ef_0 m (112 : Int32)) k
  obtain ⟨T1, X1, e1, st1⟩ := getS2 X0 hx hZ hown (host := "") (Or.inl (tw hw 7 rfl)) Via.refl e0 (S2.ext P2.2) (g := (mkF m 0 #[iv 112, .unset, .unset, .unset, .unset] [])) rfl (hb hby d1_0)
  obtain ⟨cl2, Ar2, q2, S2, N2z, H2, G2⟩ := (V_w2.ext P2.2)
  obtain ⟨cl3, Ar3, q3, S3, N3z, H3, G3⟩ := (V_w2.ext P2.2)
  have hin3 : ¬ ((0 : Int32) < 0 ∨ cl3.slots.size ≤ ((0 : Int32)).toNatClampNeg) := inb_of S3 ⟨by decide, by decide⟩
  have hat3 : cl3.slots[((0 : Int32)).toNatClampNeg]? = some (.ref w1) := Has.at H3 hin3 rfl
  obtain ⟨T4, X4, e4, st4⟩ := getF X1 hx hZ hown (host := "") (Or.inl (tw hw 9 rfl)) Via.refl e1 (F_w1_lsLetter.ext P2.2) (g := (mkF m 21 #[iv 112, rv w2, iv 7, iv 0, rv w1] [(.ref w1)])) rfl rfl (hb hby d1_21)
  obtain ⟨cl5, Ar5, q5, S5, N5z, H5, G5⟩ := (V_w2.ext P2.2)
  have hin5 : ¬ ((1 : Int32) < 0 ∨ cl5.slots.size ≤ ((1 : Int32)).toNatClampNeg) := inb_of S5 ⟨by decide, by decide⟩
  have hat5 : cl5.slots[((1 : Int32)).toNatClampNeg]? = some (.ref w4) := Has.at H5 hin5 rfl
  obtain ⟨T6, X6, e6, st6⟩ := getF X4 hx hZ hown (host := "") (Or.inl (tw hw 9 rfl)) Via.refl e4 (F_w4_lsLetter.ext P2.2) (g := (mkF m 21 #[iv 112, rv w2, iv 7, iv 1, rv w4] [(.ref w4)])) rfl rfl (hb hby d1_21)
  obtain ⟨cl7, Ar7, q7, S7, N7z, H7, G7⟩ := (V_w2.ext P2.2)
  have hin7 : ¬ ((2 : Int32) < 0 ∨ cl7.slots.size ≤ ((2 : Int32)).toNatClampNeg) := inb_of S7 ⟨by decide, by decide⟩
  have hat7 : cl7.slots[((2 : Int32)).toNatClampNeg]? = some (.ref w5) := Has.at H7 hin7 rfl
  obtain ⟨T8, X8, e8, st8⟩ := getF X6 hx hZ hown (host := "") (Or.inl (tw hw 9 rfl)) Via.refl e6 (F_w5_lsLetter.ext P2.2) (g := (mkF m 21 #[iv 112, rv w2, iv 7, iv 2, rv w5] [(.ref w5)])) rfl rfl (hb hby d1_21)
  obtain ⟨cl9, Ar9, q9, S9, N9z, H9, G9⟩ := (V_w2.ext P2.2)
  have hin9 : ¬ ((3 : Int32) < 0 ∨ cl9.slots.size ≤ ((3 : Int32)).toNatClampNeg) := inb_of S9 ⟨by decide, by decide⟩
  have hat9 : cl9.slots[((3 : Int32)).toNatClampNeg]? = some (.ref w3) := Has.at H9 hin9 rfl
  obtain ⟨T10, X10, e10, st10⟩ := getF X8 hx hZ hown (host := "") (Or.inl (tw hw 9 rfl)) Via.refl e8 (F_w3_lsLetter.ext P2.2) (g := (mkF m 21 #[iv 112, rv w2, iv 7, iv 3, rv w3] [(.ref w3)])) rfl rfl (hb hby d1_21)
  obtain ⟨cl11, Ar11, q11, S11, N11z, H11, G11⟩ := (V_w2.ext P2.2)
  have hin11 : ¬ ((4 : Int32) < 0 ∨ cl11.slots.size ≤ ((4 : Int32)).toNatClampNeg) := inb_of S11 ⟨by decide, by decide⟩
  have hat11 : cl11.slots[((4 : Int32)).toNatClampNeg]? = some (.ref w7) := Has.at H11 hin11 rfl
  obtain ⟨T12, X12, e12, st12⟩ := getF X10 hx hZ hown (host := "") (Or.inl (tw hw 9 rfl)) Via.refl e10 (F_w7_lsLetter.ext P2.2) (g := (mkF m 21 #[iv 112, rv w2, iv 7, iv 4, rv w7] [(.ref w7)])) rfl rfl (hb hby d1_21)
  obtain ⟨cl13, Ar13, q13, S13, N13z, H13, G13⟩ := (V_w2.ext P2.2)
  have hin13 : ¬ ((5 : Int32) < 0 ∨ cl13.slots.size ≤ ((5 : Int32)).toNatClampNeg) := inb_of S13 ⟨by decide, by decide⟩
  have hat13 : cl13.slots[((5 : Int32)).toNatClampNeg]? = some (.ref w6) := Has.at H13 hin13 rfl
  obtain ⟨T14, X14, e14, st14⟩ := getF X12 hx hZ hown (host := "") (Or.inl (tw hw 9 rfl)) Via.refl e12 (F_w6_lsLetter.ext P2.2) (g := (mkF m 21 #[iv 112, rv w2, iv 7, iv 5, rv w6] [(.ref w6)])) rfl rfl (hb hby d1_21)
  obtain ⟨fs, hr, hrun, hended, hW, hsame⟩ := X14.leave (v := some (.ref w6)) (fun h => by rw [Bd.returns] at h; cases h)
  refine ⟨_, _, pre0 _ ?_, hrun, hended, _, _, rfl, ?_, ⟨_, rfl⟩, hW, hsame.mono (by decide) (by decide)⟩
  · show SF p e below s₁ (mkF m 0 #[iv 112, .unset, .unset, .unset, .unset] []) _
    refine st1 _ ?_
    show SF p e below T1 (mkF m 3 #[iv 112, .unset, .unset, .unset, .unset] [(.ref w2)]) _
    refine XS.astoreN X1.here hx rfl (hb hby d1_3) rfl rfl (l' := #[iv 112, rv w2, .unset, .unset, .unset]) rfl ?_
    show SF p e below T1 (mkF m 4 #[iv 112, rv w2, .unset, .unset, .unset] []) _
    refine XS.aloadN X1.here hx rfl (hb hby d1_4) rfl rfl ?_
    show SF p e below T1 (mkF m 5 #[iv 112, rv w2, .unset, .unset, .unset] [(.ref w2)]) _
    refine X1.arraylength hx (by rw [e1]; exact Ar2.1) (State.isArrayOf_alike hZ.alike Ar2.2.1) (g := (mkF m 5 #[iv 112, rv w2, .unset, .unset, .unset] [(.ref w2)])) rfl rfl (hb hby d1_5) _ ?_
    rw [len_of S2 N2z]
    show SF p e below T1 (mkF m 6 #[iv 112, rv w2, .unset, .unset, .unset] [(.int 7)]) _
    refine XS.istoreN X1.here hx rfl (hb hby d1_6) rfl (l' := #[iv 112, rv w2, iv 7, .unset, .unset]) rfl ?_
    show SF p e below T1 (mkF m 7 #[iv 112, rv w2, iv 7, .unset, .unset] []) _
    refine XS.iconst X1.here hx rfl (hb hby d1_7) ?_
    show SF p e below T1 (mkF m 8 #[iv 112, rv w2, iv 7, .unset, .unset] [(.int 0)]) _
    refine XS.istoreN X1.here hx rfl (hb hby d1_8) rfl (l' := #[iv 112, rv w2, iv 7, iv 0, .unset]) rfl ?_
    show SF p e below T1 (mkF m 9 #[iv 112, rv w2, iv 7, iv 0, .unset] []) _
    refine XS.iloadN X1.here hx rfl (hb hby d1_9) rfl ?_
    show SF p e below T1 (mkF m 10 #[iv 112, rv w2, iv 7, iv 0, .unset] [(.int 0)]) _
    refine XS.iloadN X1.here hx rfl (hb hby d1_10) rfl ?_
    show SF p e below T1 (mkF m 11 #[iv 112, rv w2, iv 7, iv 0, .unset] [(.int 7), (.int 0)]) _
    refine XS.icmpNo X1.here hx rfl (hb hby d1_11) rfl (tlt (by decide : (0 : Int32) < (7 : Int32))).2.1 ?_
    show SF p e below T1 (mkF m 14 #[iv 112, rv w2, iv 7, iv 0, .unset] []) _
    refine XS.aloadN X1.here hx rfl (hb hby d1_14) rfl rfl ?_
    show SF p e below T1 (mkF m 15 #[iv 112, rv w2, iv 7, iv 0, .unset] [(.ref w2)]) _
    refine XS.iloadN X1.here hx rfl (hb hby d1_15) rfl ?_
    show SF p e below T1 (mkF m 16 #[iv 112, rv w2, iv 7, iv 0, .unset] [(.int 0), (.ref w2)]) _
    refine X1.aaload hx (j := (0 : Int32)) (v := (.ref w1)) (by rw [e1]; exact Ar3.1) (State.isArrayOf_alike hZ.alike Ar3.2.1) rfl Ar3.2.2 hin3 hat3 (g := (mkF m 16 #[iv 112, rv w2, iv 7, iv 0, .unset] [(.int 0), (.ref w2)])) rfl rfl (hb hby d1_16) _ ?_
    show SF p e below T1 (mkF m 17 #[iv 112, rv w2, iv 7, iv 0, .unset] [(.ref w1)]) _
    refine XS.astore X1.here hx rfl (hb hby d1_17) rfl rfl (l' := #[iv 112, rv w2, iv 7, iv 0, rv w1]) rfl ?_
    show SF p e below T1 (mkF m 19 #[iv 112, rv w2, iv 7, iv 0, rv w1] []) _
    refine XS.aload X1.here hx rfl (hb hby d1_19) rfl rfl ?_
    show SF p e below T1 (mkF m 21 #[iv 112, rv w2, iv 7, iv 0, rv w1] [(.ref w1)]) _
    refine st4 _ ?_
    show SF p e below T4 (mkF m 24 #[iv 112, rv w2, iv 7, iv 0, rv w1] [(.int 45)]) _
    refine XS.iloadN X4.here hx rfl (hb hby d1_24) rfl ?_
    show SF p e below T4 (mkF m 25 #[iv 112, rv w2, iv 7, iv 0, rv w1] [(.int 112), (.int 45)]) _
    refine XS.icmpYes X4.here hx rfl (pc0 := 25) (pc' := 31) rfl (hb hby d1_25) rfl (feq (by decide : ¬ ((45 : Int32) = (112 : Int32)))).2 (by decide) (by decide) ?_
    show SF p e below T4 (mkF m 31 #[iv 112, rv w2, iv 7, iv 0, rv w1] []) _
    refine XS.iinc X4.here hx rfl (hb hby d1_31) rfl (l' := #[iv 112, rv w2, iv 7, iv ((0 : Int32) + (1 : Int32)), rv w1]) rfl ?_
    show SF p e below T4 (mkF m 34 #[iv 112, rv w2, iv 7, iv ((0 : Int32) + (1 : Int32)), rv w1] []) _
    rw [show ((0 : Int32) + (1 : Int32)) = (1 : Int32) from by decide]
    show SF p e below T4 (mkF m 34 #[iv 112, rv w2, iv 7, iv 1, rv w1] []) _
    refine XS.goto X4.here hx rfl (pc0 := 34) (pc' := 9) rfl (hb hby d1_34) (by decide) (by decide) ?_
    show SF p e below T4 (mkF m 9 #[iv 112, rv w2, iv 7, iv 1, rv w1] []) _
    refine XS.iloadN X4.here hx rfl (hb hby d1_9) rfl ?_
    show SF p e below T4 (mkF m 10 #[iv 112, rv w2, iv 7, iv 1, rv w1] [(.int 1)]) _
    refine XS.iloadN X4.here hx rfl (hb hby d1_10) rfl ?_
    show SF p e below T4 (mkF m 11 #[iv 112, rv w2, iv 7, iv 1, rv w1] [(.int 7), (.int 1)]) _
    refine XS.icmpNo X4.here hx rfl (hb hby d1_11) rfl (tlt (by decide : (1 : Int32) < (7 : Int32))).2.1 ?_
    show SF p e below T4 (mkF m 14 #[iv 112, rv w2, iv 7, iv 1, rv w1] []) _
    refine XS.aloadN X4.here hx rfl (hb hby d1_14) rfl rfl ?_
    show SF p e below T4 (mkF m 15 #[iv 112, rv w2, iv 7, iv 1, rv w1] [(.ref w2)]) _
    refine XS.iloadN X4.here hx rfl (hb hby d1_15) rfl ?_
    show SF p e below T4 (mkF m 16 #[iv 112, rv w2, iv 7, iv 1, rv w1] [(.int 1), (.ref w2)]) _
    refine X4.aaload hx (j := (1 : Int32)) (v := (.ref w4)) (by rw [e4]; exact Ar5.1) (State.isArrayOf_alike hZ.alike Ar5.2.1) rfl Ar5.2.2 hin5 hat5 (g := (mkF m 16 #[iv 112, rv w2, iv 7, iv 1, rv w1] [(.int 1), (.ref w2)])) rfl rfl (hb hby d1_16) _ ?_
    show SF p e below T4 (mkF m 17 #[iv 112, rv w2, iv 7, iv 1, rv w1] [(.ref w4)]) _
    refine XS.astore X4.here hx rfl (hb hby d1_17) rfl rfl (l' := #[iv 112, rv w2, iv 7, iv 1, rv w4]) rfl ?_
    show SF p e below T4 (mkF m 19 #[iv 112, rv w2, iv 7, iv 1, rv w4] []) _
    refine XS.aload X4.here hx rfl (hb hby d1_19) rfl rfl ?_
    show SF p e below T4 (mkF m 21 #[iv 112, rv w2, iv 7, iv 1, rv w4] [(.ref w4)]) _
    refine st6 _ ?_
    show SF p e below T6 (mkF m 24 #[iv 112, rv w2, iv 7, iv 1, rv w4] [(.int 100)]) _
    refine XS.iloadN X6.here hx rfl (hb hby d1_24) rfl ?_
    show SF p e below T6 (mkF m 25 #[iv 112, rv w2, iv 7, iv 1, rv w4] [(.int 112), (.int 100)]) _
    refine XS.icmpYes X6.here hx rfl (pc0 := 25) (pc' := 31) rfl (hb hby d1_25) rfl (feq (by decide : ¬ ((100 : Int32) = (112 : Int32)))).2 (by decide) (by decide) ?_
    show SF p e below T6 (mkF m 31 #[iv 112, rv w2, iv 7, iv 1, rv w4] []) _
    refine XS.iinc X6.here hx rfl (hb hby d1_31) rfl (l' := #[iv 112, rv w2, iv 7, iv ((1 : Int32) + (1 : Int32)), rv w4]) rfl ?_
    show SF p e below T6 (mkF m 34 #[iv 112, rv w2, iv 7, iv ((1 : Int32) + (1 : Int32)), rv w4] []) _
    rw [show ((1 : Int32) + (1 : Int32)) = (2 : Int32) from by decide]
    show SF p e below T6 (mkF m 34 #[iv 112, rv w2, iv 7, iv 2, rv w4] []) _
    refine XS.goto X6.here hx rfl (pc0 := 34) (pc' := 9) rfl (hb hby d1_34) (by decide) (by decide) ?_
    show SF p e below T6 (mkF m 9 #[iv 112, rv w2, iv 7, iv 2, rv w4] []) _
    refine XS.iloadN X6.here hx rfl (hb hby d1_9) rfl ?_
    show SF p e below T6 (mkF m 10 #[iv 112, rv w2, iv 7, iv 2, rv w4] [(.int 2)]) _
    refine XS.iloadN X6.here hx rfl (hb hby d1_10) rfl ?_
    show SF p e below T6 (mkF m 11 #[iv 112, rv w2, iv 7, iv 2, rv w4] [(.int 7), (.int 2)]) _
    refine XS.icmpNo X6.here hx rfl (hb hby d1_11) rfl (tlt (by decide : (2 : Int32) < (7 : Int32))).2.1 ?_
    show SF p e below T6 (mkF m 14 #[iv 112, rv w2, iv 7, iv 2, rv w4] []) _
    refine XS.aloadN X6.here hx rfl (hb hby d1_14) rfl rfl ?_
    show SF p e below T6 (mkF m 15 #[iv 112, rv w2, iv 7, iv 2, rv w4] [(.ref w2)]) _
    refine XS.iloadN X6.here hx rfl (hb hby d1_15) rfl ?_
    show SF p e below T6 (mkF m 16 #[iv 112, rv w2, iv 7, iv 2, rv w4] [(.int 2), (.ref w2)]) _
    refine X6.aaload hx (j := (2 : Int32)) (v := (.ref w5)) (by rw [e6]; exact Ar7.1) (State.isArrayOf_alike hZ.alike Ar7.2.1) rfl Ar7.2.2 hin7 hat7 (g := (mkF m 16 #[iv 112, rv w2, iv 7, iv 2, rv w4] [(.int 2), (.ref w2)])) rfl rfl (hb hby d1_16) _ ?_
    show SF p e below T6 (mkF m 17 #[iv 112, rv w2, iv 7, iv 2, rv w4] [(.ref w5)]) _
    refine XS.astore X6.here hx rfl (hb hby d1_17) rfl rfl (l' := #[iv 112, rv w2, iv 7, iv 2, rv w5]) rfl ?_
    show SF p e below T6 (mkF m 19 #[iv 112, rv w2, iv 7, iv 2, rv w5] []) _
    refine XS.aload X6.here hx rfl (hb hby d1_19) rfl rfl ?_
    show SF p e below T6 (mkF m 21 #[iv 112, rv w2, iv 7, iv 2, rv w5] [(.ref w5)]) _
    refine st8 _ ?_
    show SF p e below T8 (mkF m 24 #[iv 112, rv w2, iv 7, iv 2, rv w5] [(.int 108)]) _
    refine XS.iloadN X8.here hx rfl (hb hby d1_24) rfl ?_
    show SF p e below T8 (mkF m 25 #[iv 112, rv w2, iv 7, iv 2, rv w5] [(.int 112), (.int 108)]) _
    refine XS.icmpYes X8.here hx rfl (pc0 := 25) (pc' := 31) rfl (hb hby d1_25) rfl (feq (by decide : ¬ ((108 : Int32) = (112 : Int32)))).2 (by decide) (by decide) ?_
    show SF p e below T8 (mkF m 31 #[iv 112, rv w2, iv 7, iv 2, rv w5] []) _
    refine XS.iinc X8.here hx rfl (hb hby d1_31) rfl (l' := #[iv 112, rv w2, iv 7, iv ((2 : Int32) + (1 : Int32)), rv w5]) rfl ?_
    show SF p e below T8 (mkF m 34 #[iv 112, rv w2, iv 7, iv ((2 : Int32) + (1 : Int32)), rv w5] []) _
    rw [show ((2 : Int32) + (1 : Int32)) = (3 : Int32) from by decide]
    show SF p e below T8 (mkF m 34 #[iv 112, rv w2, iv 7, iv 3, rv w5] []) _
    refine XS.goto X8.here hx rfl (pc0 := 34) (pc' := 9) rfl (hb hby d1_34) (by decide) (by decide) ?_
    show SF p e below T8 (mkF m 9 #[iv 112, rv w2, iv 7, iv 3, rv w5] []) _
    refine XS.iloadN X8.here hx rfl (hb hby d1_9) rfl ?_
    show SF p e below T8 (mkF m 10 #[iv 112, rv w2, iv 7, iv 3, rv w5] [(.int 3)]) _
    refine XS.iloadN X8.here hx rfl (hb hby d1_10) rfl ?_
    show SF p e below T8 (mkF m 11 #[iv 112, rv w2, iv 7, iv 3, rv w5] [(.int 7), (.int 3)]) _
    refine XS.icmpNo X8.here hx rfl (hb hby d1_11) rfl (tlt (by decide : (3 : Int32) < (7 : Int32))).2.1 ?_
    show SF p e below T8 (mkF m 14 #[iv 112, rv w2, iv 7, iv 3, rv w5] []) _
    refine XS.aloadN X8.here hx rfl (hb hby d1_14) rfl rfl ?_
    show SF p e below T8 (mkF m 15 #[iv 112, rv w2, iv 7, iv 3, rv w5] [(.ref w2)]) _
    refine XS.iloadN X8.here hx rfl (hb hby d1_15) rfl ?_
    show SF p e below T8 (mkF m 16 #[iv 112, rv w2, iv 7, iv 3, rv w5] [(.int 3), (.ref w2)]) _
    refine X8.aaload hx (j := (3 : Int32)) (v := (.ref w3)) (by rw [e8]; exact Ar9.1) (State.isArrayOf_alike hZ.alike Ar9.2.1) rfl Ar9.2.2 hin9 hat9 (g := (mkF m 16 #[iv 112, rv w2, iv 7, iv 3, rv w5] [(.int 3), (.ref w2)])) rfl rfl (hb hby d1_16) _ ?_
    show SF p e below T8 (mkF m 17 #[iv 112, rv w2, iv 7, iv 3, rv w5] [(.ref w3)]) _
    refine XS.astore X8.here hx rfl (hb hby d1_17) rfl rfl (l' := #[iv 112, rv w2, iv 7, iv 3, rv w3]) rfl ?_
    show SF p e below T8 (mkF m 19 #[iv 112, rv w2, iv 7, iv 3, rv w3] []) _
    refine XS.aload X8.here hx rfl (hb hby d1_19) rfl rfl ?_
    show SF p e below T8 (mkF m 21 #[iv 112, rv w2, iv 7, iv 3, rv w3] [(.ref w3)]) _
    refine st10 _ ?_
    show SF p e below T10 (mkF m 24 #[iv 112, rv w2, iv 7, iv 3, rv w3] [(.int 99)]) _
    refine XS.iloadN X10.here hx rfl (hb hby d1_24) rfl ?_
    show SF p e below T10 (mkF m 25 #[iv 112, rv w2, iv 7, iv 3, rv w3] [(.int 112), (.int 99)]) _
    refine XS.icmpYes X10.here hx rfl (pc0 := 25) (pc' := 31) rfl (hb hby d1_25) rfl (feq (by decide : ¬ ((99 : Int32) = (112 : Int32)))).2 (by decide) (by decide) ?_
    show SF p e below T10 (mkF m 31 #[iv 112, rv w2, iv 7, iv 3, rv w3] []) _
    refine XS.iinc X10.here hx rfl (hb hby d1_31) rfl (l' := #[iv 112, rv w2, iv 7, iv ((3 : Int32) + (1 : Int32)), rv w3]) rfl ?_
    show SF p e below T10 (mkF m 34 #[iv 112, rv w2, iv 7, iv ((3 : Int32) + (1 : Int32)), rv w3] []) _
    rw [show ((3 : Int32) + (1 : Int32)) = (4 : Int32) from by decide]
    show SF p e below T10 (mkF m 34 #[iv 112, rv w2, iv 7, iv 4, rv w3] []) _
    refine XS.goto X10.here hx rfl (pc0 := 34) (pc' := 9) rfl (hb hby d1_34) (by decide) (by decide) ?_
    show SF p e below T10 (mkF m 9 #[iv 112, rv w2, iv 7, iv 4, rv w3] []) _
    refine XS.iloadN X10.here hx rfl (hb hby d1_9) rfl ?_
    show SF p e below T10 (mkF m 10 #[iv 112, rv w2, iv 7, iv 4, rv w3] [(.int 4)]) _
    refine XS.iloadN X10.here hx rfl (hb hby d1_10) rfl ?_
    show SF p e below T10 (mkF m 11 #[iv 112, rv w2, iv 7, iv 4, rv w3] [(.int 7), (.int 4)]) _
    refine XS.icmpNo X10.here hx rfl (hb hby d1_11) rfl (tlt (by decide : (4 : Int32) < (7 : Int32))).2.1 ?_
    show SF p e below T10 (mkF m 14 #[iv 112, rv w2, iv 7, iv 4, rv w3] []) _
    refine XS.aloadN X10.here hx rfl (hb hby d1_14) rfl rfl ?_
    show SF p e below T10 (mkF m 15 #[iv 112, rv w2, iv 7, iv 4, rv w3] [(.ref w2)]) _
    refine XS.iloadN X10.here hx rfl (hb hby d1_15) rfl ?_
    show SF p e below T10 (mkF m 16 #[iv 112, rv w2, iv 7, iv 4, rv w3] [(.int 4), (.ref w2)]) _
    refine X10.aaload hx (j := (4 : Int32)) (v := (.ref w7)) (by rw [e10]; exact Ar11.1) (State.isArrayOf_alike hZ.alike Ar11.2.1) rfl Ar11.2.2 hin11 hat11 (g := (mkF m 16 #[iv 112, rv w2, iv 7, iv 4, rv w3] [(.int 4), (.ref w2)])) rfl rfl (hb hby d1_16) _ ?_
    show SF p e below T10 (mkF m 17 #[iv 112, rv w2, iv 7, iv 4, rv w3] [(.ref w7)]) _
    refine XS.astore X10.here hx rfl (hb hby d1_17) rfl rfl (l' := #[iv 112, rv w2, iv 7, iv 4, rv w7]) rfl ?_
    show SF p e below T10 (mkF m 19 #[iv 112, rv w2, iv 7, iv 4, rv w7] []) _
    refine XS.aload X10.here hx rfl (hb hby d1_19) rfl rfl ?_
    show SF p e below T10 (mkF m 21 #[iv 112, rv w2, iv 7, iv 4, rv w7] [(.ref w7)]) _
    refine st12 _ ?_
    show SF p e below T12 (mkF m 24 #[iv 112, rv w2, iv 7, iv 4, rv w7] [(.int 98)]) _
    refine XS.iloadN X12.here hx rfl (hb hby d1_24) rfl ?_
    show SF p e below T12 (mkF m 25 #[iv 112, rv w2, iv 7, iv 4, rv w7] [(.int 112), (.int 98)]) _
    refine XS.icmpYes X12.here hx rfl (pc0 := 25) (pc' := 31) rfl (hb hby d1_25) rfl (feq (by decide : ¬ ((98 : Int32) = (112 : Int32)))).2 (by decide) (by decide) ?_
    show SF p e below T12 (mkF m 31 #[iv 112, rv w2, iv 7, iv 4, rv w7] []) _
    refine XS.iinc X12.here hx rfl (hb hby d1_31) rfl (l' := #[iv 112, rv w2, iv 7, iv ((4 : Int32) + (1 : Int32)), rv w7]) rfl ?_
    show SF p e below T12 (mkF m 34 #[iv 112, rv w2, iv 7, iv ((4 : Int32) + (1 : Int32)), rv w7] []) _
    rw [show ((4 : Int32) + (1 : Int32)) = (5 : Int32) from by decide]
    show SF p e below T12 (mkF m 34 #[iv 112, rv w2, iv 7, iv 5, rv w7] []) _
    refine XS.goto X12.here hx rfl (pc0 := 34) (pc' := 9) rfl (hb hby d1_34) (by decide) (by decide) ?_
    show SF p e below T12 (mkF m 9 #[iv 112, rv w2, iv 7, iv 5, rv w7] []) _
    refine XS.iloadN X12.here hx rfl (hb hby d1_9) rfl ?_
    show SF p e below T12 (mkF m 10 #[iv 112, rv w2, iv 7, iv 5, rv w7] [(.int 5)]) _
    refine XS.iloadN X12.here hx rfl (hb hby d1_10) rfl ?_
    show SF p e below T12 (mkF m 11 #[iv 112, rv w2, iv 7, iv 5, rv w7] [(.int 7), (.int 5)]) _
    refine XS.icmpNo X12.here hx rfl (hb hby d1_11) rfl (tlt (by decide : (5 : Int32) < (7 : Int32))).2.1 ?_
    show SF p e below T12 (mkF m 14 #[iv 112, rv w2, iv 7, iv 5, rv w7] []) _
    refine XS.aloadN X12.here hx rfl (hb hby d1_14) rfl rfl ?_
    show SF p e below T12 (mkF m 15 #[iv 112, rv w2, iv 7, iv 5, rv w7] [(.ref w2)]) _
    refine XS.iloadN X12.here hx rfl (hb hby d1_15) rfl ?_
    show SF p e below T12 (mkF m 16 #[iv 112, rv w2, iv 7, iv 5, rv w7] [(.int 5), (.ref w2)]) _
    refine X12.aaload hx (j := (5 : Int32)) (v := (.ref w6)) (by rw [e12]; exact Ar13.1) (State.isArrayOf_alike hZ.alike Ar13.2.1) rfl Ar13.2.2 hin13 hat13 (g := (mkF m 16 #[iv 112, rv w2, iv 7, iv 5, rv w7] [(.int 5), (.ref w2)])) rfl rfl (hb hby d1_16) _ ?_
    show SF p e below T12 (mkF m 17 #[iv 112, rv w2, iv 7, iv 5, rv w7] [(.ref w6)]) _
    refine XS.astore X12.here hx rfl (hb hby d1_17) rfl rfl (l' := #[iv 112, rv w2, iv 7, iv 5, rv w6]) rfl ?_
    show SF p e below T12 (mkF m 19 #[iv 112, rv w2, iv 7, iv 5, rv w6] []) _
    refine XS.aload X12.here hx rfl (hb hby d1_19) rfl rfl ?_
    show SF p e below T12 (mkF m 21 #[iv 112, rv w2, iv 7, iv 5, rv w6] [(.ref w6)]) _
    refine st14 _ ?_
    show SF p e below T14 (mkF m 24 #[iv 112, rv w2, iv 7, iv 5, rv w6] [(.int 112)]) _
    refine XS.iloadN X14.here hx rfl (hb hby d1_24) rfl ?_
    show SF p e below T14 (mkF m 25 #[iv 112, rv w2, iv 7, iv 5, rv w6] [(.int 112), (.int 112)]) _
    refine XS.icmpNo X14.here hx rfl (hb hby d1_25) rfl (teq (by decide : (112 : Int32) = (112 : Int32))).2 ?_
    show SF p e below T14 (mkF m 28 #[iv 112, rv w2, iv 7, iv 5, rv w6] []) _
    refine XS.aload X14.here hx rfl (hb hby d1_28) rfl rfl ?_
    show SF p e below T14 (mkF m 30 #[iv 112, rv w2, iv 7, iv 5, rv w6] [(.ref w6)]) _
    exact own_retR X14 hx Bd.returns rfl rfl (hb hby d1_30) hr
  · show Q1_11 Z w2 kw2 w1 w4 w5 w3 w7 w6 w8 h0 n0 _ T14.heap _
    rw [e14]
    exact ⟨rfl, N0, rfl⟩
-- FileType.lsLetter 
def Q2_12 (Z : State) (w6 : Addr) (h0 : Heap) (n0 : Nat) (v : Option Value) (h : Heap) (L : List Loc) : Prop := v = some (.int 112) ∧ Fr n0 L ∧ h = h0
set_option maxRecDepth 65536 in
set_option maxHeartbeats 40000000 in
theorem rm2_12 (l : Launch) (Z : State) (a0 : Array Value) (hw : HW Z a0) (ws : List Jvm.Cond) (w6 : Addr) (h0 : Heap) (n0 : Nat) (Z0 : n0 ≤ h0.size) (F_w6_lsLetter : Fld Z Z.heap w6 "com/example/umask/umask/FileType" "lsLetter" "C" (.int 112)) (P2 : Old Z n0 h0) :
    MF l Z (⟨"com/example/umask/umask/FileType", "lsLetter", "()C"⟩ : MethodName) (Jvm.Cond.code (⟨"com/example/umask/umask/FileType", "lsLetter", "()C"⟩ : MethodName) prog_16_method_4_code 1 (some .char)) ws ({ frames := 0, cells := 0, slots := 0, locals := 0 } : Room) #[(.ref w6)] h0 (Q2_12 Z w6 h0 n0) := by
  refine MetFree.of_bodySF (plainFor_of_name pn_0) hisR ?_
  intro p e s m args below meth c s₁ Bd hml0 hP hK
  obtain ⟨rfl, hZ, hh⟩ := hP
  have hx := Bd.exec
  have hby := Bd.bytes
  have hml : c.maxLocals = 1 := hml0
  have hown : s.vm.findClass "com/example/umask/umask/FileType" = some m.cls := findClass_of_methodNamed Bd.named
  have hnm := (name_of_methodNamed Bd.named Bd.method).1
  have X0 : Stand p l e ({ frames := 0, cells := 0, slots := 0, locals := 0 } : Room) s m #[(.ref w6)] below meth c s₁ [] 0 0 := Stand.of_body Bd
  have e0 : s₁.heap = h0 := by rw [← hh, Bd.state]; rfl
  have N0 := Fr.nil n0
  have pre0 : ∀ t, SF p e below s₁ (mkF m 0 #[rv w6] []) t → SF p e below s₁ (entryFrame m #[(.ref w6)] 1) t := fun t k => castTop (ef_1 m w6) k
  obtain ⟨T1, X1, e1, st1⟩ := getF X0 hx hZ hown (host := "") (Or.inl (tw hw 9 rfl)) Via.refl e0 (F_w6_lsLetter.ext P2.2) (g := (mkF m 1 #[rv w6] [(.ref w6)])) rfl rfl (hb hby d2_1)
  obtain ⟨fs, hr, hrun, hended, hW, hsame⟩ := X1.leave (v := some (.int 112)) (fun h => by rw [Bd.returns] at h; cases h)
  refine ⟨_, _, pre0 _ ?_, hrun, hended, _, _, rfl, ?_, ⟨_, rfl⟩, hW, hsame.mono (by decide) (by decide)⟩
  · show SF p e below s₁ (mkF m 0 #[rv w6] []) _
    refine XS.aloadN X0.here hx rfl (hb hby d2_0) rfl rfl ?_
    show SF p e below s₁ (mkF m 1 #[rv w6] [(.ref w6)]) _
    refine st1 _ ?_
    show SF p e below T1 (mkF m 4 #[rv w6] [(.int 112)]) _
    exact retN X1 hx (t := .char) Bd.returns (by simp) (hb hby d2_4) hr
  · show Q2_12 Z w6 h0 n0 _ T1.heap _
    rw [e1]
    exact ⟨rfl, N0, rfl⟩
-- FileType.fromLsLetter 
def Q1_13 (Z : State) (w2 : Addr) (kw2 : ClassId) (w1 : Addr) (w4 : Addr) (w5 : Addr) (w3 : Addr) (w7 : Addr) (w6 : Addr) (w8 : Addr) (h0 : Heap) (n0 : Nat) (v : Option Value) (h : Heap) (L : List Loc) : Prop := v = some (.ref w8) ∧ Fr n0 L ∧ h = h0
set_option maxRecDepth 65536 in
set_option maxHeartbeats 40000000 in
theorem rm1_13 (l : Launch) (Z : State) (a0 : Array Value) (hw : HW Z a0) (ws : List Jvm.Cond) (w2 : Addr) (kw2 : ClassId) (w1 : Addr) (w4 : Addr) (w5 : Addr) (w3 : Addr) (w7 : Addr) (w6 : Addr) (w8 : Addr) (h0 : Heap) (n0 : Nat) (Z0 : n0 ≤ h0.size) (S2 : Sta Z Z.heap "com/example/umask/umask/FileType" "TYPES" "[Lcom/example/umask/umask/FileType;" (.ref w2)) (P2 : Old Z n0 h0) (V_w2 : Arv Z Z.heap w2 kw2 (.object "com/example/umask/umask/FileType") (7 : Int32) [(.ref w1), (.ref w4), (.ref w5), (.ref w3), (.ref w7), (.ref w6), (.ref w8)] .null) (F_w1_lsLetter : Fld Z Z.heap w1 "com/example/umask/umask/FileType" "lsLetter" "C" (.int 45)) (F_w4_lsLetter : Fld Z Z.heap w4 "com/example/umask/umask/FileType" "lsLetter" "C" (.int 100)) (F_w5_lsLetter : Fld Z Z.heap w5 "com/example/umask/umask/FileType" "lsLetter" "C" (.int 108)) (F_w3_lsLetter : Fld Z Z.heap w3 "com/example/umask/umask/FileType" "lsLetter" "C" (.int 99)) (F_w7_lsLetter : Fld Z Z.heap w7 "com/example/umask/umask/FileType" "lsLetter" "C" (.int 98)) (F_w6_lsLetter : Fld Z Z.heap w6 "com/example/umask/umask/FileType" "lsLetter" "C" (.int 112)) (F_w8_lsLetter : Fld Z Z.heap w8 "com/example/umask/umask/FileType" "lsLetter" "C" (.int 115)) :
    MF l Z (⟨"com/example/umask/umask/FileType", "fromLsLetter", "(C)Lcom/example/umask/umask/FileType;"⟩ : MethodName) (Jvm.Cond.code (⟨"com/example/umask/umask/FileType", "fromLsLetter", "(C)Lcom/example/umask/umask/FileType;"⟩ : MethodName) prog_16_method_5_code 5 (some (.object "com/example/umask/umask/FileType"))) ws ({ frames := 0, cells := 0, slots := 0, locals := 0 } : Room) #[(.int 115)] h0 (Q1_13 Z w2 kw2 w1 w4 w5 w3 w7 w6 w8 h0 n0) := by
  refine MetFree.of_bodySF (plainFor_of_name pn_0) hisR ?_
  intro p e s m args below meth c s₁ Bd hml0 hP hK
  obtain ⟨rfl, hZ, hh⟩ := hP
  have hx := Bd.exec
  have hby := Bd.bytes
  have hml : c.maxLocals = 5 := hml0
  have hown : s.vm.findClass "com/example/umask/umask/FileType" = some m.cls := findClass_of_methodNamed Bd.named
  have hnm := (name_of_methodNamed Bd.named Bd.method).1
  have X0 : Stand p l e ({ frames := 0, cells := 0, slots := 0, locals := 0 } : Room) s m #[(.int 115)] below meth c s₁ [] 0 0 := Stand.of_body Bd
  have e0 : s₁.heap = h0 := by rw [← hh, Bd.state]; rfl
  have N0 := Fr.nil n0
  have pre0 : ∀ t, SF p e below s₁ (mkF m 0 #[iv 115, .unset, .unset, .unset, .unset] []) t → SF p e below s₁ (entryFrame m #[(.int 115)] 5) t := fun t k => castTop (ef_0 m (115 : Int32)) k
  obtain ⟨T1, X1, e1, st1⟩ := getS2 X0 hx hZ hown (host := "") (Or.inl (tw hw 7 rfl)) Via.refl e0 (S2.ext P2.2) (g := (mkF m 0 #[iv 115, .unset, .unset, .unset, .unset] [])) rfl (hb hby d1_0)
  obtain ⟨cl2, Ar2, q2, S2, N2z, H2, G2⟩ := (V_w2.ext P2.2)
  obtain ⟨cl3, Ar3, q3, S3, N3z, H3, G3⟩ := (V_w2.ext P2.2)
  have hin3 : ¬ ((0 : Int32) < 0 ∨ cl3.slots.size ≤ ((0 : Int32)).toNatClampNeg) := inb_of S3 ⟨by decide, by decide⟩
  have hat3 : cl3.slots[((0 : Int32)).toNatClampNeg]? = some (.ref w1) := Has.at H3 hin3 rfl
  obtain ⟨T4, X4, e4, st4⟩ := getF X1 hx hZ hown (host := "") (Or.inl (tw hw 9 rfl)) Via.refl e1 (F_w1_lsLetter.ext P2.2) (g := (mkF m 21 #[iv 115, rv w2, iv 7, iv 0, rv w1] [(.ref w1)])) rfl rfl (hb hby d1_21)
  obtain ⟨cl5, Ar5, q5, S5, N5z, H5, G5⟩ := (V_w2.ext P2.2)
  have hin5 : ¬ ((1 : Int32) < 0 ∨ cl5.slots.size ≤ ((1 : Int32)).toNatClampNeg) := inb_of S5 ⟨by decide, by decide⟩
  have hat5 : cl5.slots[((1 : Int32)).toNatClampNeg]? = some (.ref w4) := Has.at H5 hin5 rfl
  obtain ⟨T6, X6, e6, st6⟩ := getF X4 hx hZ hown (host := "") (Or.inl (tw hw 9 rfl)) Via.refl e4 (F_w4_lsLetter.ext P2.2) (g := (mkF m 21 #[iv 115, rv w2, iv 7, iv 1, rv w4] [(.ref w4)])) rfl rfl (hb hby d1_21)
  obtain ⟨cl7, Ar7, q7, S7, N7z, H7, G7⟩ := (V_w2.ext P2.2)
  have hin7 : ¬ ((2 : Int32) < 0 ∨ cl7.slots.size ≤ ((2 : Int32)).toNatClampNeg) := inb_of S7 ⟨by decide, by decide⟩
  have hat7 : cl7.slots[((2 : Int32)).toNatClampNeg]? = some (.ref w5) := Has.at H7 hin7 rfl
  obtain ⟨T8, X8, e8, st8⟩ := getF X6 hx hZ hown (host := "") (Or.inl (tw hw 9 rfl)) Via.refl e6 (F_w5_lsLetter.ext P2.2) (g := (mkF m 21 #[iv 115, rv w2, iv 7, iv 2, rv w5] [(.ref w5)])) rfl rfl (hb hby d1_21)
  obtain ⟨cl9, Ar9, q9, S9, N9z, H9, G9⟩ := (V_w2.ext P2.2)
  have hin9 : ¬ ((3 : Int32) < 0 ∨ cl9.slots.size ≤ ((3 : Int32)).toNatClampNeg) := inb_of S9 ⟨by decide, by decide⟩
  have hat9 : cl9.slots[((3 : Int32)).toNatClampNeg]? = some (.ref w3) := Has.at H9 hin9 rfl
  obtain ⟨T10, X10, e10, st10⟩ := getF X8 hx hZ hown (host := "") (Or.inl (tw hw 9 rfl)) Via.refl e8 (F_w3_lsLetter.ext P2.2) (g := (mkF m 21 #[iv 115, rv w2, iv 7, iv 3, rv w3] [(.ref w3)])) rfl rfl (hb hby d1_21)
  obtain ⟨cl11, Ar11, q11, S11, N11z, H11, G11⟩ := (V_w2.ext P2.2)
  have hin11 : ¬ ((4 : Int32) < 0 ∨ cl11.slots.size ≤ ((4 : Int32)).toNatClampNeg) := inb_of S11 ⟨by decide, by decide⟩
  have hat11 : cl11.slots[((4 : Int32)).toNatClampNeg]? = some (.ref w7) := Has.at H11 hin11 rfl
  obtain ⟨T12, X12, e12, st12⟩ := getF X10 hx hZ hown (host := "") (Or.inl (tw hw 9 rfl)) Via.refl e10 (F_w7_lsLetter.ext P2.2) (g := (mkF m 21 #[iv 115, rv w2, iv 7, iv 4, rv w7] [(.ref w7)])) rfl rfl (hb hby d1_21)
  obtain ⟨cl13, Ar13, q13, S13, N13z, H13, G13⟩ := (V_w2.ext P2.2)
  have hin13 : ¬ ((5 : Int32) < 0 ∨ cl13.slots.size ≤ ((5 : Int32)).toNatClampNeg) := inb_of S13 ⟨by decide, by decide⟩
  have hat13 : cl13.slots[((5 : Int32)).toNatClampNeg]? = some (.ref w6) := Has.at H13 hin13 rfl
  obtain ⟨T14, X14, e14, st14⟩ := getF X12 hx hZ hown (host := "") (Or.inl (tw hw 9 rfl)) Via.refl e12 (F_w6_lsLetter.ext P2.2) (g := (mkF m 21 #[iv 115, rv w2, iv 7, iv 5, rv w6] [(.ref w6)])) rfl rfl (hb hby d1_21)
  obtain ⟨cl15, Ar15, q15, S15, N15z, H15, G15⟩ := (V_w2.ext P2.2)
  have hin15 : ¬ ((6 : Int32) < 0 ∨ cl15.slots.size ≤ ((6 : Int32)).toNatClampNeg) := inb_of S15 ⟨by decide, by decide⟩
  have hat15 : cl15.slots[((6 : Int32)).toNatClampNeg]? = some (.ref w8) := Has.at H15 hin15 rfl
  obtain ⟨T16, X16, e16, st16⟩ := getF X14 hx hZ hown (host := "") (Or.inl (tw hw 9 rfl)) Via.refl e14 (F_w8_lsLetter.ext P2.2) (g := (mkF m 21 #[iv 115, rv w2, iv 7, iv 6, rv w8] [(.ref w8)])) rfl rfl (hb hby d1_21)
  obtain ⟨fs, hr, hrun, hended, hW, hsame⟩ := X16.leave (v := some (.ref w8)) (fun h => by rw [Bd.returns] at h; cases h)
  refine ⟨_, _, pre0 _ ?_, hrun, hended, _, _, rfl, ?_, ⟨_, rfl⟩, hW, hsame.mono (by decide) (by decide)⟩
  · show SF p e below s₁ (mkF m 0 #[iv 115, .unset, .unset, .unset, .unset] []) _
    refine st1 _ ?_
    show SF p e below T1 (mkF m 3 #[iv 115, .unset, .unset, .unset, .unset] [(.ref w2)]) _
    refine XS.astoreN X1.here hx rfl (hb hby d1_3) rfl rfl (l' := #[iv 115, rv w2, .unset, .unset, .unset]) rfl ?_
    show SF p e below T1 (mkF m 4 #[iv 115, rv w2, .unset, .unset, .unset] []) _
    refine XS.aloadN X1.here hx rfl (hb hby d1_4) rfl rfl ?_
    show SF p e below T1 (mkF m 5 #[iv 115, rv w2, .unset, .unset, .unset] [(.ref w2)]) _
    refine X1.arraylength hx (by rw [e1]; exact Ar2.1) (State.isArrayOf_alike hZ.alike Ar2.2.1) (g := (mkF m 5 #[iv 115, rv w2, .unset, .unset, .unset] [(.ref w2)])) rfl rfl (hb hby d1_5) _ ?_
    rw [len_of S2 N2z]
    show SF p e below T1 (mkF m 6 #[iv 115, rv w2, .unset, .unset, .unset] [(.int 7)]) _
    refine XS.istoreN X1.here hx rfl (hb hby d1_6) rfl (l' := #[iv 115, rv w2, iv 7, .unset, .unset]) rfl ?_
    show SF p e below T1 (mkF m 7 #[iv 115, rv w2, iv 7, .unset, .unset] []) _
    refine XS.iconst X1.here hx rfl (hb hby d1_7) ?_
    show SF p e below T1 (mkF m 8 #[iv 115, rv w2, iv 7, .unset, .unset] [(.int 0)]) _
    refine XS.istoreN X1.here hx rfl (hb hby d1_8) rfl (l' := #[iv 115, rv w2, iv 7, iv 0, .unset]) rfl ?_
    show SF p e below T1 (mkF m 9 #[iv 115, rv w2, iv 7, iv 0, .unset] []) _
    refine XS.iloadN X1.here hx rfl (hb hby d1_9) rfl ?_
    show SF p e below T1 (mkF m 10 #[iv 115, rv w2, iv 7, iv 0, .unset] [(.int 0)]) _
    refine XS.iloadN X1.here hx rfl (hb hby d1_10) rfl ?_
    show SF p e below T1 (mkF m 11 #[iv 115, rv w2, iv 7, iv 0, .unset] [(.int 7), (.int 0)]) _
    refine XS.icmpNo X1.here hx rfl (hb hby d1_11) rfl (tlt (by decide : (0 : Int32) < (7 : Int32))).2.1 ?_
    show SF p e below T1 (mkF m 14 #[iv 115, rv w2, iv 7, iv 0, .unset] []) _
    refine XS.aloadN X1.here hx rfl (hb hby d1_14) rfl rfl ?_
    show SF p e below T1 (mkF m 15 #[iv 115, rv w2, iv 7, iv 0, .unset] [(.ref w2)]) _
    refine XS.iloadN X1.here hx rfl (hb hby d1_15) rfl ?_
    show SF p e below T1 (mkF m 16 #[iv 115, rv w2, iv 7, iv 0, .unset] [(.int 0), (.ref w2)]) _
    refine X1.aaload hx (j := (0 : Int32)) (v := (.ref w1)) (by rw [e1]; exact Ar3.1) (State.isArrayOf_alike hZ.alike Ar3.2.1) rfl Ar3.2.2 hin3 hat3 (g := (mkF m 16 #[iv 115, rv w2, iv 7, iv 0, .unset] [(.int 0), (.ref w2)])) rfl rfl (hb hby d1_16) _ ?_
    show SF p e below T1 (mkF m 17 #[iv 115, rv w2, iv 7, iv 0, .unset] [(.ref w1)]) _
    refine XS.astore X1.here hx rfl (hb hby d1_17) rfl rfl (l' := #[iv 115, rv w2, iv 7, iv 0, rv w1]) rfl ?_
    show SF p e below T1 (mkF m 19 #[iv 115, rv w2, iv 7, iv 0, rv w1] []) _
    refine XS.aload X1.here hx rfl (hb hby d1_19) rfl rfl ?_
    show SF p e below T1 (mkF m 21 #[iv 115, rv w2, iv 7, iv 0, rv w1] [(.ref w1)]) _
    refine st4 _ ?_
    show SF p e below T4 (mkF m 24 #[iv 115, rv w2, iv 7, iv 0, rv w1] [(.int 45)]) _
    refine XS.iloadN X4.here hx rfl (hb hby d1_24) rfl ?_
    show SF p e below T4 (mkF m 25 #[iv 115, rv w2, iv 7, iv 0, rv w1] [(.int 115), (.int 45)]) _
    refine XS.icmpYes X4.here hx rfl (pc0 := 25) (pc' := 31) rfl (hb hby d1_25) rfl (feq (by decide : ¬ ((45 : Int32) = (115 : Int32)))).2 (by decide) (by decide) ?_
    show SF p e below T4 (mkF m 31 #[iv 115, rv w2, iv 7, iv 0, rv w1] []) _
    refine XS.iinc X4.here hx rfl (hb hby d1_31) rfl (l' := #[iv 115, rv w2, iv 7, iv ((0 : Int32) + (1 : Int32)), rv w1]) rfl ?_
    show SF p e below T4 (mkF m 34 #[iv 115, rv w2, iv 7, iv ((0 : Int32) + (1 : Int32)), rv w1] []) _
    rw [show ((0 : Int32) + (1 : Int32)) = (1 : Int32) from by decide]
    show SF p e below T4 (mkF m 34 #[iv 115, rv w2, iv 7, iv 1, rv w1] []) _
    refine XS.goto X4.here hx rfl (pc0 := 34) (pc' := 9) rfl (hb hby d1_34) (by decide) (by decide) ?_
    show SF p e below T4 (mkF m 9 #[iv 115, rv w2, iv 7, iv 1, rv w1] []) _
    refine XS.iloadN X4.here hx rfl (hb hby d1_9) rfl ?_
    show SF p e below T4 (mkF m 10 #[iv 115, rv w2, iv 7, iv 1, rv w1] [(.int 1)]) _
    refine XS.iloadN X4.here hx rfl (hb hby d1_10) rfl ?_
    show SF p e below T4 (mkF m 11 #[iv 115, rv w2, iv 7, iv 1, rv w1] [(.int 7), (.int 1)]) _
    refine XS.icmpNo X4.here hx rfl (hb hby d1_11) rfl (tlt (by decide : (1 : Int32) < (7 : Int32))).2.1 ?_
    show SF p e below T4 (mkF m 14 #[iv 115, rv w2, iv 7, iv 1, rv w1] []) _
    refine XS.aloadN X4.here hx rfl (hb hby d1_14) rfl rfl ?_
    show SF p e below T4 (mkF m 15 #[iv 115, rv w2, iv 7, iv 1, rv w1] [(.ref w2)]) _
    refine XS.iloadN X4.here hx rfl (hb hby d1_15) rfl ?_
    show SF p e below T4 (mkF m 16 #[iv 115, rv w2, iv 7, iv 1, rv w1] [(.int 1), (.ref w2)]) _
    refine X4.aaload hx (j := (1 : Int32)) (v := (.ref w4)) (by rw [e4]; exact Ar5.1) (State.isArrayOf_alike hZ.alike Ar5.2.1) rfl Ar5.2.2 hin5 hat5 (g := (mkF m 16 #[iv 115, rv w2, iv 7, iv 1, rv w1] [(.int 1), (.ref w2)])) rfl rfl (hb hby d1_16) _ ?_
    show SF p e below T4 (mkF m 17 #[iv 115, rv w2, iv 7, iv 1, rv w1] [(.ref w4)]) _
    refine XS.astore X4.here hx rfl (hb hby d1_17) rfl rfl (l' := #[iv 115, rv w2, iv 7, iv 1, rv w4]) rfl ?_
    show SF p e below T4 (mkF m 19 #[iv 115, rv w2, iv 7, iv 1, rv w4] []) _
    refine XS.aload X4.here hx rfl (hb hby d1_19) rfl rfl ?_
    show SF p e below T4 (mkF m 21 #[iv 115, rv w2, iv 7, iv 1, rv w4] [(.ref w4)]) _
    refine st6 _ ?_
    show SF p e below T6 (mkF m 24 #[iv 115, rv w2, iv 7, iv 1, rv w4] [(.int 100)]) _
    refine XS.iloadN X6.here hx rfl (hb hby d1_24) rfl ?_
    show SF p e below T6 (mkF m 25 #[iv 115, rv w2, iv 7, iv 1, rv w4] [(.int 115), (.int 100)]) _
    refine XS.icmpYes X6.here hx rfl (pc0 := 25) (pc' := 31) rfl (hb hby d1_25) rfl (feq (by decide : ¬ ((100 : Int32) = (115 : Int32)))).2 (by decide) (by decide) ?_
    show SF p e below T6 (mkF m 31 #[iv 115, rv w2, iv 7, iv 1, rv w4] []) _
    refine XS.iinc X6.here hx rfl (hb hby d1_31) rfl (l' := #[iv 115, rv w2, iv 7, iv ((1 : Int32) + (1 : Int32)), rv w4]) rfl ?_
    show SF p e below T6 (mkF m 34 #[iv 115, rv w2, iv 7, iv ((1 : Int32) + (1 : Int32)), rv w4] []) _
    rw [show ((1 : Int32) + (1 : Int32)) = (2 : Int32) from by decide]
    show SF p e below T6 (mkF m 34 #[iv 115, rv w2, iv 7, iv 2, rv w4] []) _
    refine XS.goto X6.here hx rfl (pc0 := 34) (pc' := 9) rfl (hb hby d1_34) (by decide) (by decide) ?_
    show SF p e below T6 (mkF m 9 #[iv 115, rv w2, iv 7, iv 2, rv w4] []) _
    refine XS.iloadN X6.here hx rfl (hb hby d1_9) rfl ?_
    show SF p e below T6 (mkF m 10 #[iv 115, rv w2, iv 7, iv 2, rv w4] [(.int 2)]) _
    refine XS.iloadN X6.here hx rfl (hb hby d1_10) rfl ?_
    show SF p e below T6 (mkF m 11 #[iv 115, rv w2, iv 7, iv 2, rv w4] [(.int 7), (.int 2)]) _
    refine XS.icmpNo X6.here hx rfl (hb hby d1_11) rfl (tlt (by decide : (2 : Int32) < (7 : Int32))).2.1 ?_
    show SF p e below T6 (mkF m 14 #[iv 115, rv w2, iv 7, iv 2, rv w4] []) _
    refine XS.aloadN X6.here hx rfl (hb hby d1_14) rfl rfl ?_
    show SF p e below T6 (mkF m 15 #[iv 115, rv w2, iv 7, iv 2, rv w4] [(.ref w2)]) _
    refine XS.iloadN X6.here hx rfl (hb hby d1_15) rfl ?_
    show SF p e below T6 (mkF m 16 #[iv 115, rv w2, iv 7, iv 2, rv w4] [(.int 2), (.ref w2)]) _
    refine X6.aaload hx (j := (2 : Int32)) (v := (.ref w5)) (by rw [e6]; exact Ar7.1) (State.isArrayOf_alike hZ.alike Ar7.2.1) rfl Ar7.2.2 hin7 hat7 (g := (mkF m 16 #[iv 115, rv w2, iv 7, iv 2, rv w4] [(.int 2), (.ref w2)])) rfl rfl (hb hby d1_16) _ ?_
    show SF p e below T6 (mkF m 17 #[iv 115, rv w2, iv 7, iv 2, rv w4] [(.ref w5)]) _
    refine XS.astore X6.here hx rfl (hb hby d1_17) rfl rfl (l' := #[iv 115, rv w2, iv 7, iv 2, rv w5]) rfl ?_
    show SF p e below T6 (mkF m 19 #[iv 115, rv w2, iv 7, iv 2, rv w5] []) _
    refine XS.aload X6.here hx rfl (hb hby d1_19) rfl rfl ?_
    show SF p e below T6 (mkF m 21 #[iv 115, rv w2, iv 7, iv 2, rv w5] [(.ref w5)]) _
    refine st8 _ ?_
    show SF p e below T8 (mkF m 24 #[iv 115, rv w2, iv 7, iv 2, rv w5] [(.int 108)]) _
    refine XS.iloadN X8.here hx rfl (hb hby d1_24) rfl ?_
    show SF p e below T8 (mkF m 25 #[iv 115, rv w2, iv 7, iv 2, rv w5] [(.int 115), (.int 108)]) _
    refine XS.icmpYes X8.here hx rfl (pc0 := 25) (pc' := 31) rfl (hb hby d1_25) rfl (feq (by decide : ¬ ((108 : Int32) = (115 : Int32)))).2 (by decide) (by decide) ?_
    show SF p e below T8 (mkF m 31 #[iv 115, rv w2, iv 7, iv 2, rv w5] []) _
    refine XS.iinc X8.here hx rfl (hb hby d1_31) rfl (l' := #[iv 115, rv w2, iv 7, iv ((2 : Int32) + (1 : Int32)), rv w5]) rfl ?_
    show SF p e below T8 (mkF m 34 #[iv 115, rv w2, iv 7, iv ((2 : Int32) + (1 : Int32)), rv w5] []) _
    rw [show ((2 : Int32) + (1 : Int32)) = (3 : Int32) from by decide]
    show SF p e below T8 (mkF m 34 #[iv 115, rv w2, iv 7, iv 3, rv w5] []) _
    refine XS.goto X8.here hx rfl (pc0 := 34) (pc' := 9) rfl (hb hby d1_34) (by decide) (by decide) ?_
    show SF p e below T8 (mkF m 9 #[iv 115, rv w2, iv 7, iv 3, rv w5] []) _
    refine XS.iloadN X8.here hx rfl (hb hby d1_9) rfl ?_
    show SF p e below T8 (mkF m 10 #[iv 115, rv w2, iv 7, iv 3, rv w5] [(.int 3)]) _
    refine XS.iloadN X8.here hx rfl (hb hby d1_10) rfl ?_
    show SF p e below T8 (mkF m 11 #[iv 115, rv w2, iv 7, iv 3, rv w5] [(.int 7), (.int 3)]) _
    refine XS.icmpNo X8.here hx rfl (hb hby d1_11) rfl (tlt (by decide : (3 : Int32) < (7 : Int32))).2.1 ?_
    show SF p e below T8 (mkF m 14 #[iv 115, rv w2, iv 7, iv 3, rv w5] []) _
    refine XS.aloadN X8.here hx rfl (hb hby d1_14) rfl rfl ?_
    show SF p e below T8 (mkF m 15 #[iv 115, rv w2, iv 7, iv 3, rv w5] [(.ref w2)]) _
    refine XS.iloadN X8.here hx rfl (hb hby d1_15) rfl ?_
    show SF p e below T8 (mkF m 16 #[iv 115, rv w2, iv 7, iv 3, rv w5] [(.int 3), (.ref w2)]) _
    refine X8.aaload hx (j := (3 : Int32)) (v := (.ref w3)) (by rw [e8]; exact Ar9.1) (State.isArrayOf_alike hZ.alike Ar9.2.1) rfl Ar9.2.2 hin9 hat9 (g := (mkF m 16 #[iv 115, rv w2, iv 7, iv 3, rv w5] [(.int 3), (.ref w2)])) rfl rfl (hb hby d1_16) _ ?_
    show SF p e below T8 (mkF m 17 #[iv 115, rv w2, iv 7, iv 3, rv w5] [(.ref w3)]) _
    refine XS.astore X8.here hx rfl (hb hby d1_17) rfl rfl (l' := #[iv 115, rv w2, iv 7, iv 3, rv w3]) rfl ?_
    show SF p e below T8 (mkF m 19 #[iv 115, rv w2, iv 7, iv 3, rv w3] []) _
    refine XS.aload X8.here hx rfl (hb hby d1_19) rfl rfl ?_
    show SF p e below T8 (mkF m 21 #[iv 115, rv w2, iv 7, iv 3, rv w3] [(.ref w3)]) _
    refine st10 _ ?_
    show SF p e below T10 (mkF m 24 #[iv 115, rv w2, iv 7, iv 3, rv w3] [(.int 99)]) _
    refine XS.iloadN X10.here hx rfl (hb hby d1_24) rfl ?_
    show SF p e below T10 (mkF m 25 #[iv 115, rv w2, iv 7, iv 3, rv w3] [(.int 115), (.int 99)]) _
    refine XS.icmpYes X10.here hx rfl (pc0 := 25) (pc' := 31) rfl (hb hby d1_25) rfl (feq (by decide : ¬ ((99 : Int32) = (115 : Int32)))).2 (by decide) (by decide) ?_
    show SF p e below T10 (mkF m 31 #[iv 115, rv w2, iv 7, iv 3, rv w3] []) _
    refine XS.iinc X10.here hx rfl (hb hby d1_31) rfl (l' := #[iv 115, rv w2, iv 7, iv ((3 : Int32) + (1 : Int32)), rv w3]) rfl ?_
    show SF p e below T10 (mkF m 34 #[iv 115, rv w2, iv 7, iv ((3 : Int32) + (1 : Int32)), rv w3] []) _
    rw [show ((3 : Int32) + (1 : Int32)) = (4 : Int32) from by decide]
    show SF p e below T10 (mkF m 34 #[iv 115, rv w2, iv 7, iv 4, rv w3] []) _
    refine XS.goto X10.here hx rfl (pc0 := 34) (pc' := 9) rfl (hb hby d1_34) (by decide) (by decide) ?_
    show SF p e below T10 (mkF m 9 #[iv 115, rv w2, iv 7, iv 4, rv w3] []) _
    refine XS.iloadN X10.here hx rfl (hb hby d1_9) rfl ?_
    show SF p e below T10 (mkF m 10 #[iv 115, rv w2, iv 7, iv 4, rv w3] [(.int 4)]) _
    refine XS.iloadN X10.here hx rfl (hb hby d1_10) rfl ?_
    show SF p e below T10 (mkF m 11 #[iv 115, rv w2, iv 7, iv 4, rv w3] [(.int 7), (.int 4)]) _
    refine XS.icmpNo X10.here hx rfl (hb hby d1_11) rfl (tlt (by decide : (4 : Int32) < (7 : Int32))).2.1 ?_
    show SF p e below T10 (mkF m 14 #[iv 115, rv w2, iv 7, iv 4, rv w3] []) _
    refine XS.aloadN X10.here hx rfl (hb hby d1_14) rfl rfl ?_
    show SF p e below T10 (mkF m 15 #[iv 115, rv w2, iv 7, iv 4, rv w3] [(.ref w2)]) _
    refine XS.iloadN X10.here hx rfl (hb hby d1_15) rfl ?_
    show SF p e below T10 (mkF m 16 #[iv 115, rv w2, iv 7, iv 4, rv w3] [(.int 4), (.ref w2)]) _
    refine X10.aaload hx (j := (4 : Int32)) (v := (.ref w7)) (by rw [e10]; exact Ar11.1) (State.isArrayOf_alike hZ.alike Ar11.2.1) rfl Ar11.2.2 hin11 hat11 (g := (mkF m 16 #[iv 115, rv w2, iv 7, iv 4, rv w3] [(.int 4), (.ref w2)])) rfl rfl (hb hby d1_16) _ ?_
    show SF p e below T10 (mkF m 17 #[iv 115, rv w2, iv 7, iv 4, rv w3] [(.ref w7)]) _
    refine XS.astore X10.here hx rfl (hb hby d1_17) rfl rfl (l' := #[iv 115, rv w2, iv 7, iv 4, rv w7]) rfl ?_
    show SF p e below T10 (mkF m 19 #[iv 115, rv w2, iv 7, iv 4, rv w7] []) _
    refine XS.aload X10.here hx rfl (hb hby d1_19) rfl rfl ?_
    show SF p e below T10 (mkF m 21 #[iv 115, rv w2, iv 7, iv 4, rv w7] [(.ref w7)]) _
    refine st12 _ ?_
    show SF p e below T12 (mkF m 24 #[iv 115, rv w2, iv 7, iv 4, rv w7] [(.int 98)]) _
    refine XS.iloadN X12.here hx rfl (hb hby d1_24) rfl ?_
    show SF p e below T12 (mkF m 25 #[iv 115, rv w2, iv 7, iv 4, rv w7] [(.int 115), (.int 98)]) _
    refine XS.icmpYes X12.here hx rfl (pc0 := 25) (pc' := 31) rfl (hb hby d1_25) rfl (feq (by decide : ¬ ((98 : Int32) = (115 : Int32)))).2 (by decide) (by decide) ?_
    show SF p e below T12 (mkF m 31 #[iv 115, rv w2, iv 7, iv 4, rv w7] []) _
    refine XS.iinc X12.here hx rfl (hb hby d1_31) rfl (l' := #[iv 115, rv w2, iv 7, iv ((4 : Int32) + (1 : Int32)), rv w7]) rfl ?_
    show SF p e below T12 (mkF m 34 #[iv 115, rv w2, iv 7, iv ((4 : Int32) + (1 : Int32)), rv w7] []) _
    rw [show ((4 : Int32) + (1 : Int32)) = (5 : Int32) from by decide]
    show SF p e below T12 (mkF m 34 #[iv 115, rv w2, iv 7, iv 5, rv w7] []) _
    refine XS.goto X12.here hx rfl (pc0 := 34) (pc' := 9) rfl (hb hby d1_34) (by decide) (by decide) ?_
    show SF p e below T12 (mkF m 9 #[iv 115, rv w2, iv 7, iv 5, rv w7] []) _
    refine XS.iloadN X12.here hx rfl (hb hby d1_9) rfl ?_
    show SF p e below T12 (mkF m 10 #[iv 115, rv w2, iv 7, iv 5, rv w7] [(.int 5)]) _
    refine XS.iloadN X12.here hx rfl (hb hby d1_10) rfl ?_
    show SF p e below T12 (mkF m 11 #[iv 115, rv w2, iv 7, iv 5, rv w7] [(.int 7), (.int 5)]) _
    refine XS.icmpNo X12.here hx rfl (hb hby d1_11) rfl (tlt (by decide : (5 : Int32) < (7 : Int32))).2.1 ?_
    show SF p e below T12 (mkF m 14 #[iv 115, rv w2, iv 7, iv 5, rv w7] []) _
    refine XS.aloadN X12.here hx rfl (hb hby d1_14) rfl rfl ?_
    show SF p e below T12 (mkF m 15 #[iv 115, rv w2, iv 7, iv 5, rv w7] [(.ref w2)]) _
    refine XS.iloadN X12.here hx rfl (hb hby d1_15) rfl ?_
    show SF p e below T12 (mkF m 16 #[iv 115, rv w2, iv 7, iv 5, rv w7] [(.int 5), (.ref w2)]) _
    refine X12.aaload hx (j := (5 : Int32)) (v := (.ref w6)) (by rw [e12]; exact Ar13.1) (State.isArrayOf_alike hZ.alike Ar13.2.1) rfl Ar13.2.2 hin13 hat13 (g := (mkF m 16 #[iv 115, rv w2, iv 7, iv 5, rv w7] [(.int 5), (.ref w2)])) rfl rfl (hb hby d1_16) _ ?_
    show SF p e below T12 (mkF m 17 #[iv 115, rv w2, iv 7, iv 5, rv w7] [(.ref w6)]) _
    refine XS.astore X12.here hx rfl (hb hby d1_17) rfl rfl (l' := #[iv 115, rv w2, iv 7, iv 5, rv w6]) rfl ?_
    show SF p e below T12 (mkF m 19 #[iv 115, rv w2, iv 7, iv 5, rv w6] []) _
    refine XS.aload X12.here hx rfl (hb hby d1_19) rfl rfl ?_
    show SF p e below T12 (mkF m 21 #[iv 115, rv w2, iv 7, iv 5, rv w6] [(.ref w6)]) _
    refine st14 _ ?_
    show SF p e below T14 (mkF m 24 #[iv 115, rv w2, iv 7, iv 5, rv w6] [(.int 112)]) _
    refine XS.iloadN X14.here hx rfl (hb hby d1_24) rfl ?_
    show SF p e below T14 (mkF m 25 #[iv 115, rv w2, iv 7, iv 5, rv w6] [(.int 115), (.int 112)]) _
    refine XS.icmpYes X14.here hx rfl (pc0 := 25) (pc' := 31) rfl (hb hby d1_25) rfl (feq (by decide : ¬ ((112 : Int32) = (115 : Int32)))).2 (by decide) (by decide) ?_
    show SF p e below T14 (mkF m 31 #[iv 115, rv w2, iv 7, iv 5, rv w6] []) _
    refine XS.iinc X14.here hx rfl (hb hby d1_31) rfl (l' := #[iv 115, rv w2, iv 7, iv ((5 : Int32) + (1 : Int32)), rv w6]) rfl ?_
    show SF p e below T14 (mkF m 34 #[iv 115, rv w2, iv 7, iv ((5 : Int32) + (1 : Int32)), rv w6] []) _
    rw [show ((5 : Int32) + (1 : Int32)) = (6 : Int32) from by decide]
    show SF p e below T14 (mkF m 34 #[iv 115, rv w2, iv 7, iv 6, rv w6] []) _
    refine XS.goto X14.here hx rfl (pc0 := 34) (pc' := 9) rfl (hb hby d1_34) (by decide) (by decide) ?_
    show SF p e below T14 (mkF m 9 #[iv 115, rv w2, iv 7, iv 6, rv w6] []) _
    refine XS.iloadN X14.here hx rfl (hb hby d1_9) rfl ?_
    show SF p e below T14 (mkF m 10 #[iv 115, rv w2, iv 7, iv 6, rv w6] [(.int 6)]) _
    refine XS.iloadN X14.here hx rfl (hb hby d1_10) rfl ?_
    show SF p e below T14 (mkF m 11 #[iv 115, rv w2, iv 7, iv 6, rv w6] [(.int 7), (.int 6)]) _
    refine XS.icmpNo X14.here hx rfl (hb hby d1_11) rfl (tlt (by decide : (6 : Int32) < (7 : Int32))).2.1 ?_
    show SF p e below T14 (mkF m 14 #[iv 115, rv w2, iv 7, iv 6, rv w6] []) _
    refine XS.aloadN X14.here hx rfl (hb hby d1_14) rfl rfl ?_
    show SF p e below T14 (mkF m 15 #[iv 115, rv w2, iv 7, iv 6, rv w6] [(.ref w2)]) _
    refine XS.iloadN X14.here hx rfl (hb hby d1_15) rfl ?_
    show SF p e below T14 (mkF m 16 #[iv 115, rv w2, iv 7, iv 6, rv w6] [(.int 6), (.ref w2)]) _
    refine X14.aaload hx (j := (6 : Int32)) (v := (.ref w8)) (by rw [e14]; exact Ar15.1) (State.isArrayOf_alike hZ.alike Ar15.2.1) rfl Ar15.2.2 hin15 hat15 (g := (mkF m 16 #[iv 115, rv w2, iv 7, iv 6, rv w6] [(.int 6), (.ref w2)])) rfl rfl (hb hby d1_16) _ ?_
    show SF p e below T14 (mkF m 17 #[iv 115, rv w2, iv 7, iv 6, rv w6] [(.ref w8)]) _
    refine XS.astore X14.here hx rfl (hb hby d1_17) rfl rfl (l' := #[iv 115, rv w2, iv 7, iv 6, rv w8]) rfl ?_
    show SF p e below T14 (mkF m 19 #[iv 115, rv w2, iv 7, iv 6, rv w8] []) _
    refine XS.aload X14.here hx rfl (hb hby d1_19) rfl rfl ?_
    show SF p e below T14 (mkF m 21 #[iv 115, rv w2, iv 7, iv 6, rv w8] [(.ref w8)]) _
    refine st16 _ ?_
    show SF p e below T16 (mkF m 24 #[iv 115, rv w2, iv 7, iv 6, rv w8] [(.int 115)]) _
    refine XS.iloadN X16.here hx rfl (hb hby d1_24) rfl ?_
    show SF p e below T16 (mkF m 25 #[iv 115, rv w2, iv 7, iv 6, rv w8] [(.int 115), (.int 115)]) _
    refine XS.icmpNo X16.here hx rfl (hb hby d1_25) rfl (teq (by decide : (115 : Int32) = (115 : Int32))).2 ?_
    show SF p e below T16 (mkF m 28 #[iv 115, rv w2, iv 7, iv 6, rv w8] []) _
    refine XS.aload X16.here hx rfl (hb hby d1_28) rfl rfl ?_
    show SF p e below T16 (mkF m 30 #[iv 115, rv w2, iv 7, iv 6, rv w8] [(.ref w8)]) _
    exact own_retR X16 hx Bd.returns rfl rfl (hb hby d1_30) hr
  · show Q1_13 Z w2 kw2 w1 w4 w5 w3 w7 w6 w8 h0 n0 _ T16.heap _
    rw [e16]
    exact ⟨rfl, N0, rfl⟩
-- FileType.lsLetter 
def Q2_14 (Z : State) (w8 : Addr) (h0 : Heap) (n0 : Nat) (v : Option Value) (h : Heap) (L : List Loc) : Prop := v = some (.int 115) ∧ Fr n0 L ∧ h = h0
set_option maxRecDepth 65536 in
set_option maxHeartbeats 40000000 in
theorem rm2_14 (l : Launch) (Z : State) (a0 : Array Value) (hw : HW Z a0) (ws : List Jvm.Cond) (w8 : Addr) (h0 : Heap) (n0 : Nat) (Z0 : n0 ≤ h0.size) (F_w8_lsLetter : Fld Z Z.heap w8 "com/example/umask/umask/FileType" "lsLetter" "C" (.int 115)) (P2 : Old Z n0 h0) :
    MF l Z (⟨"com/example/umask/umask/FileType", "lsLetter", "()C"⟩ : MethodName) (Jvm.Cond.code (⟨"com/example/umask/umask/FileType", "lsLetter", "()C"⟩ : MethodName) prog_16_method_4_code 1 (some .char)) ws ({ frames := 0, cells := 0, slots := 0, locals := 0 } : Room) #[(.ref w8)] h0 (Q2_14 Z w8 h0 n0) := by
  refine MetFree.of_bodySF (plainFor_of_name pn_0) hisR ?_
  intro p e s m args below meth c s₁ Bd hml0 hP hK
  obtain ⟨rfl, hZ, hh⟩ := hP
  have hx := Bd.exec
  have hby := Bd.bytes
  have hml : c.maxLocals = 1 := hml0
  have hown : s.vm.findClass "com/example/umask/umask/FileType" = some m.cls := findClass_of_methodNamed Bd.named
  have hnm := (name_of_methodNamed Bd.named Bd.method).1
  have X0 : Stand p l e ({ frames := 0, cells := 0, slots := 0, locals := 0 } : Room) s m #[(.ref w8)] below meth c s₁ [] 0 0 := Stand.of_body Bd
  have e0 : s₁.heap = h0 := by rw [← hh, Bd.state]; rfl
  have N0 := Fr.nil n0
  have pre0 : ∀ t, SF p e below s₁ (mkF m 0 #[rv w8] []) t → SF p e below s₁ (entryFrame m #[(.ref w8)] 1) t := fun t k => castTop (ef_1 m w8) k
  obtain ⟨T1, X1, e1, st1⟩ := getF X0 hx hZ hown (host := "") (Or.inl (tw hw 9 rfl)) Via.refl e0 (F_w8_lsLetter.ext P2.2) (g := (mkF m 1 #[rv w8] [(.ref w8)])) rfl rfl (hb hby d2_1)
  obtain ⟨fs, hr, hrun, hended, hW, hsame⟩ := X1.leave (v := some (.int 115)) (fun h => by rw [Bd.returns] at h; cases h)
  refine ⟨_, _, pre0 _ ?_, hrun, hended, _, _, rfl, ?_, ⟨_, rfl⟩, hW, hsame.mono (by decide) (by decide)⟩
  · show SF p e below s₁ (mkF m 0 #[rv w8] []) _
    refine XS.aloadN X0.here hx rfl (hb hby d2_0) rfl rfl ?_
    show SF p e below s₁ (mkF m 1 #[rv w8] [(.ref w8)]) _
    refine st1 _ ?_
    show SF p e below T1 (mkF m 4 #[rv w8] [(.int 115)]) _
    exact retN X1 hx (t := .char) Bd.returns (by simp) (hb hby d2_4) hr
  · show Q2_14 Z w8 h0 n0 _ T1.heap _
    rw [e1]
    exact ⟨rfl, N0, rfl⟩
theorem pn_1 : plainName "com/example/umask/umask/FileTypeFromLsLetterPinLaw" = true := by first | (simp [plainName, overriddenIn]; done) | decide +kernel
theorem ef_2 (m : MethodId) (x0 : Int32) : entryFrame m #[(.int x0)] maxLocals = mkF m 0 #[.val (.int x0), .unset, .unset, .unset, .unset] [] := by first | (simp [entryFrame, mkF, argsToLocals, Value.category, maxLocals]; done) | rfl
set_option maxRecDepth 65536 in
set_option maxHeartbeats 400000000 in
theorem rm0 (l : Launch) (Z : State) (a0 : Array Value) (hw : HW Z a0) (ws : List Jvm.Cond) (p0s : Int32) (w1 : Addr) (w2 : Addr) (w3 : Addr) (w4 : Addr) (w5 : Addr) (w6 : Addr) (w7 : Addr) (w8 : Addr) (kw2 : ClassId) (h0 : Heap) (n0 : Nat) (Z0 : n0 ≤ h0.size) (O0 : Old Z n0 h0) (S0 : Sta Z Z.heap "com/example/umask/umask/FileType" "REGULAR" "Lcom/example/umask/umask/FileType;" (.ref w1)) (E_w1 : Exa Z Z.heap w1 "com/example/umask/umask/FileType") (S2 : Sta Z Z.heap "com/example/umask/umask/FileType" "TYPES" "[Lcom/example/umask/umask/FileType;" (.ref w2)) (S3 : Sta Z Z.heap "com/example/umask/umask/FileType" "CHARACTER_DEVICE" "Lcom/example/umask/umask/FileType;" (.ref w3)) (E_w3 : Exa Z Z.heap w3 "com/example/umask/umask/FileType") (S5 : Sta Z Z.heap "com/example/umask/umask/FileType" "DIRECTORY" "Lcom/example/umask/umask/FileType;" (.ref w4)) (E_w4 : Exa Z Z.heap w4 "com/example/umask/umask/FileType") (S7 : Sta Z Z.heap "com/example/umask/umask/FileType" "SYMBOLIC_LINK" "Lcom/example/umask/umask/FileType;" (.ref w5)) (E_w5 : Exa Z Z.heap w5 "com/example/umask/umask/FileType") (S9 : Sta Z Z.heap "com/example/umask/umask/FileType" "FIFO" "Lcom/example/umask/umask/FileType;" (.ref w6)) (E_w6 : Exa Z Z.heap w6 "com/example/umask/umask/FileType") (S11 : Sta Z Z.heap "com/example/umask/umask/FileType" "BLOCK_DEVICE" "Lcom/example/umask/umask/FileType;" (.ref w7)) (E_w7 : Exa Z Z.heap w7 "com/example/umask/umask/FileType") (S13 : Sta Z Z.heap "com/example/umask/umask/FileType" "SOCKET" "Lcom/example/umask/umask/FileType;" (.ref w8)) (E_w8 : Exa Z Z.heap w8 "com/example/umask/umask/FileType") (F_w1_lsLetter : Fld Z Z.heap w1 "com/example/umask/umask/FileType" "lsLetter" "C" (.int 45)) (F_w4_lsLetter : Fld Z Z.heap w4 "com/example/umask/umask/FileType" "lsLetter" "C" (.int 100)) (F_w5_lsLetter : Fld Z Z.heap w5 "com/example/umask/umask/FileType" "lsLetter" "C" (.int 108)) (F_w3_lsLetter : Fld Z Z.heap w3 "com/example/umask/umask/FileType" "lsLetter" "C" (.int 99)) (F_w7_lsLetter : Fld Z Z.heap w7 "com/example/umask/umask/FileType" "lsLetter" "C" (.int 98)) (F_w6_lsLetter : Fld Z Z.heap w6 "com/example/umask/umask/FileType" "lsLetter" "C" (.int 112)) (F_w8_lsLetter : Fld Z Z.heap w8 "com/example/umask/umask/FileType" "lsLetter" "C" (.int 115)) (V_w2 : Arv Z Z.heap w2 kw2 (.object "com/example/umask/umask/FileType") (7 : Int32) [(.ref w1), (.ref w4), (.ref w5), (.ref w3), (.ref w7), (.ref w6), (.ref w8)] .null) :
    MF l Z x (Jvm.Cond.code x code maxLocals ret) ws room_1 #[(.int p0s)] h0 (fun v _ L => v = some (.int (1 : Int32)) ∧ Fr n0 L) := by
  refine MetFree.of_bodySF (plainFor_of_name pn_1) hisR ?_
  intro p e s m args below meth c s₁ Bd hml0 hP hK
  obtain ⟨rfl, hZ, hh⟩ := hP
  have hx := Bd.exec
  have hby := Bd.bytes
  have hml : c.maxLocals = 5 := hml0
  have hown : s.vm.findClass "com/example/umask/umask/FileTypeFromLsLetterPinLaw" = some m.cls := findClass_of_methodNamed Bd.named
  have hnm := (name_of_methodNamed Bd.named Bd.method).1
  have X0 : Stand p l e room_1 s m #[(.int p0s)] below meth c s₁ [] 0 0 := Stand.of_body Bd
  have e0 : s₁.heap = h0 := by rw [← hh, Bd.state]; rfl
  have N0 := Fr.nil n0
  have pre0 : ∀ t, SF p e below s₁ (mkF m 0 #[iv p0s, .unset, .unset, .unset, .unset] []) t → SF p e below s₁ (entryFrame m #[(.int p0s)] maxLocals) t := fun t k => castTop (ef_2 m p0s) k
  have hre := Bd.returns
  have hlk : meth.locks = false := by first | assumption | exact BodyLoose.notSynchronized Bd | exact Body.notSynchronized Bd
  show Fin p e below s n0 _
  have pre1 : ∀ t, SF p e below s₁ (mkF m 7 #[iv p0s, .unset, .unset, .unset, .unset] [(.int ((p0s &&& (2147483647 : Int32)) % (7 : Int32)))]) t → SF p e below s₁ (mkF m 0 #[iv p0s, .unset, .unset, .unset, .unset] []) t := fun t k => by
    show SF p e below s₁ (mkF m 0 #[iv p0s, .unset, .unset, .unset, .unset] []) _
    refine XS.iloadN X0.here hx rfl (hb hby at_0) rfl ?_
    show SF p e below s₁ (mkF m 1 #[iv p0s, .unset, .unset, .unset, .unset] [(.int p0s)]) _
    refine X0.ldcInt hx hown (mvT hZ (tw hw 0 rfl)) (g := (mkF m 1 #[iv p0s, .unset, .unset, .unset, .unset] [(.int p0s)])) rfl (hb hby at_1) _ ?_
    show SF p e below s₁ (mkF m 3 #[iv p0s, .unset, .unset, .unset, .unset] [(.int 2147483647), (.int p0s)]) _
    refine XS.iand X0.here hx rfl (hb hby at_3) rfl ?_
    show SF p e below s₁ (mkF m 4 #[iv p0s, .unset, .unset, .unset, .unset] [(.int (p0s &&& (2147483647 : Int32)))]) _
    refine XS.bipush X0.here hx rfl (hb hby at_4) ?_
    show SF p e below s₁ (mkF m 6 #[iv p0s, .unset, .unset, .unset, .unset] [(.int 7), (.int (p0s &&& (2147483647 : Int32)))]) _
    refine iremM X0 hx rfl (hb hby at_6) rfl (by decide) ?_
    exact k
  rcases own_mod7 p0s with hc1 | hc1 | hc1 | hc1 | hc1 | hc1 | hc1
  · obtain ⟨T1, X1, e1, st1⟩ := getS2 X0 hx hZ hown (host := "") (Or.inl (tw hw 1 rfl)) Via.refl e0 (S0.ext O0.2) (g := (mkF m 15 #[iv p0s, iv 0, iv 45, .unset, .unset] [])) rfl (hb hby at_15)
    obtain ⟨_, _, ⟨T2, L2, k2x, n2⟩, -, X2, ⟨Lc2, hQ2, l2, y2, z2⟩, st2⟩ := Jvm.LawKit.callS X1 hx (y := (⟨"com/example/umask/umask/FileType", "fromLsLetter", "(C)Lcom/example/umask/umask/FileType;"⟩ : MethodName)) hown (mvT hZ (tw hw 4 rfl)) (mvT hZ (tw hw 5 rfl)) (mvT hZ (tw hw 2 rfl)) (mvT hZ (tw hw 6 rfl)) (by decide) (backOf (W := 0) (rm1_1 l Z a0 hw [] w2 kw2 w1 w4 w5 w3 w7 w6 w8 h0 n0 Z0 S2 O0 V_w2 F_w1_lsLetter) hZ (tw hw 6 rfl) (tw hw 2 rfl) (by decide) (by decide)) (g := (mkF m 105 #[iv p0s, iv 0, iv 45, rv w1, .unset] [(.int 45)])) rfl (by rw [hml]; rfl) (argsL := [(.int 45)]) (rest := []) (lenOf pd_0 rfl) rfl (by show 2 * 0 + _ ≤ _; exact Nat.le_of_eq rfl) (hb hby at_105) (fun _ _ => ⟨rfl, e1, (by decide : 0 + 0 ≤ _), (by decide : 0 + 0 ≤ _)⟩)
    dsimp only [Pt.U, Pt.locs, Pt.cells, Pt.slots] at X2 l2 y2 z2 st2 hQ2
    subst l2 y2 z2
    obtain ⟨rfl, N2q, e2⟩ := hQ2
    have N2 := Fr.app N0 N2q
    obtain ⟨cq3, kq3, q3a, q3b, q3c⟩ := isOf hZ e2 (E_w1.ext O0.2)
    obtain ⟨_, _, ⟨T3, L3, k3x, n3⟩, -, X3, ⟨Lc3, hQ3, l3, y3, z3⟩, st3⟩ := X2.virtualBack hx (y := (⟨"com/example/umask/umask/FileType", "lsLetter", "()C"⟩ : MethodName)) (z := (⟨"com/example/umask/umask/FileType", "lsLetter", "()C"⟩ : MethodName)) hown (mvT hZ (tw hw 11 rfl)) (mvT hZ (tw hw 12 rfl)) (notFace_of_selects (args := #[]) (mvT hZ (tw hw 14 rfl))) (mvT hZ (tw hw 14 rfl)) (mvT hZ (tw hw 13 rfl)) (by decide) (backOf (W := 0) (rm2_2 l Z a0 hw [] w1 h0 n0 Z0 F_w1_lsLetter O0) hZ (tw hw 15 rfl) (tw hw 2 rfl) (by decide) (by decide)) q3a q3c (g := (mkF m 118 #[iv p0s, iv 0, iv 45, rv w1, rv w1] [(.ref w1)])) rfl (by rw [hml]; rfl) (Steps.refl _) (argsL := []) (rest := []) (lenOf pd_1 rfl) rfl (by show 2 * 0 + _ ≤ _; exact Nat.le_of_eq rfl) (hb hby at_118) (fun _ _ => ⟨rfl, e2, (by decide : 0 + 0 ≤ _), (by decide : 0 + 0 ≤ _)⟩)
    dsimp only [Pt.U, Pt.locs, Pt.cells, Pt.slots] at X3 l3 y3 z3 st3 hQ3
    subst l3 y3 z3
    obtain ⟨rfl, N3q, e3⟩ := hQ3
    have N3 := Fr.app N2 N3q
    obtain ⟨fs, hr, hrun, hended, hW, hsame⟩ := X3.leave (v := some (.int (1 : Int32))) (fun h => by rw [hre] at h; cases h)
    refine ⟨_, _, pre0 _ (pre1 _ (?_)), hrun, hended, _, _, rfl, ?_, ⟨_, rfl⟩, hW, hsame.mono (by decide) (by decide)⟩
    · show SF p e below s₁ (mkF m 7 #[iv p0s, .unset, .unset, .unset, .unset] [(.int ((p0s &&& (2147483647 : Int32)) % (7 : Int32)))]) _
      rw [hc1]
      show SF p e below s₁ (mkF m 7 #[iv p0s, .unset, .unset, .unset, .unset] [(.int 0)]) _
      refine XS.istoreN X0.here hx rfl (hb hby at_7) rfl (l' := #[iv p0s, iv 0, .unset, .unset, .unset]) rfl ?_
      show SF p e below s₁ (mkF m 8 #[iv p0s, iv 0, .unset, .unset, .unset] []) _
      refine XS.iloadN X0.here hx rfl (hb hby at_8) rfl ?_
      show SF p e below s₁ (mkF m 9 #[iv p0s, iv 0, .unset, .unset, .unset] [(.int 0)]) _
      refine XS.ifNo X0.here hx rfl (hb hby at_9) rfl ((if0 _ _).trans (teq (by decide : (0 : Int32) = (0 : Int32))).2) ?_
      show SF p e below s₁ (mkF m 12 #[iv p0s, iv 0, .unset, .unset, .unset] []) _
      refine XS.bipush X0.here hx rfl (hb hby at_12) ?_
      show SF p e below s₁ (mkF m 14 #[iv p0s, iv 0, .unset, .unset, .unset] [(.int 45)]) _
      refine XS.istoreN X0.here hx rfl (hb hby at_14) rfl (l' := #[iv p0s, iv 0, iv 45, .unset, .unset]) rfl ?_
      show SF p e below s₁ (mkF m 15 #[iv p0s, iv 0, iv 45, .unset, .unset] []) _
      refine st1 _ ?_
      show SF p e below T1 (mkF m 18 #[iv p0s, iv 0, iv 45, .unset, .unset] [(.ref w1)]) _
      refine XS.astoreN X1.here hx rfl (hb hby at_18) rfl rfl (l' := #[iv p0s, iv 0, iv 45, rv w1, .unset]) rfl ?_
      show SF p e below T1 (mkF m 19 #[iv p0s, iv 0, iv 45, rv w1, .unset] []) _
      refine XS.goto X1.here hx rfl (pc0 := 19) (pc' := 104) rfl (hb hby at_19) (by decide) (by decide) ?_
      show SF p e below T1 (mkF m 104 #[iv p0s, iv 0, iv 45, rv w1, .unset] []) _
      refine XS.iloadN X1.here hx rfl (hb hby at_104) rfl ?_
      show SF p e below T1 (mkF m 105 #[iv p0s, iv 0, iv 45, rv w1, .unset] [(.int 45)]) _
      refine st2 _ ?_
      show SF p e below T2 (mkF m 108 #[iv p0s, iv 0, iv 45, rv w1, .unset] [(.ref w1)]) _
      refine XS.astore X2.here hx rfl (hb hby at_108) rfl rfl (l' := #[iv p0s, iv 0, iv 45, rv w1, rv w1]) rfl ?_
      show SF p e below T2 (mkF m 110 #[iv p0s, iv 0, iv 45, rv w1, rv w1] []) _
      refine XS.aload X2.here hx rfl (hb hby at_110) rfl rfl ?_
      show SF p e below T2 (mkF m 112 #[iv p0s, iv 0, iv 45, rv w1, rv w1] [(.ref w1)]) _
      refine XS.aloadN X2.here hx rfl (hb hby at_112) rfl rfl ?_
      show SF p e below T2 (mkF m 113 #[iv p0s, iv 0, iv 45, rv w1, rv w1] [(.ref w1), (.ref w1)]) _
      refine Jvm.RoadKit.acmp (g := (mkF m 113 #[iv p0s, iv 0, iv 45, rv w1, rv w1] [(.ref w1), (.ref w1)])) X2 hx rfl rfl rfl (pc0 := 113) (pc' := 116) (same := true) rfl (hb hby at_113) rfl (decide_eq_true rfl) (by decide) (by decide) ?_
      show SF p e below T2 (mkF m 116 #[iv p0s, iv 0, iv 45, rv w1, rv w1] []) _
      refine XS.aload X2.here hx rfl (hb hby at_116) rfl rfl ?_
      show SF p e below T2 (mkF m 118 #[iv p0s, iv 0, iv 45, rv w1, rv w1] [(.ref w1)]) _
      refine st3.trans ?_
      show SF p e below T3 (mkF m 121 #[iv p0s, iv 0, iv 45, rv w1, rv w1] [(.int 45)]) _
      refine XS.iloadN X3.here hx rfl (hb hby at_121) rfl ?_
      show SF p e below T3 (mkF m 122 #[iv p0s, iv 0, iv 45, rv w1, rv w1] [(.int 45), (.int 45)]) _
      refine XS.icmpNo X3.here hx rfl (hb hby at_122) rfl (teq (by decide : (45 : Int32) = (45 : Int32))).2 ?_
      show SF p e below T3 (mkF m 125 #[iv p0s, iv 0, iv 45, rv w1, rv w1] []) _
      refine XS.iconst X3.here hx rfl (hb hby at_125) ?_
      show SF p e below T3 (mkF m 126 #[iv p0s, iv 0, iv 45, rv w1, rv w1] [(.int 1)]) _
      refine XS.goto X3.here hx rfl (pc0 := 126) (pc' := 130) rfl (hb hby at_126) (by decide) (by decide) ?_
      show SF p e below T3 (mkF m 130 #[iv p0s, iv 0, iv 45, rv w1, rv w1] [(.int 1)]) _
      exact retN X3 hx (t := .boolean) hre (by simp) (hb hby at_130) hr
    · exact ⟨rfl, N3⟩
  · obtain ⟨T1, X1, e1, st1⟩ := getS2 X0 hx hZ hown (host := "") (Or.inl (tw hw 27 rfl)) Via.refl e0 (S5.ext O0.2) (g := (mkF m 30 #[iv p0s, iv 1, iv 100, .unset, .unset] [])) rfl (hb hby at_30)
    obtain ⟨_, _, ⟨T2, L2, k2x, n2⟩, -, X2, ⟨Lc2, hQ2, l2, y2, z2⟩, st2⟩ := Jvm.LawKit.callS X1 hx (y := (⟨"com/example/umask/umask/FileType", "fromLsLetter", "(C)Lcom/example/umask/umask/FileType;"⟩ : MethodName)) hown (mvT hZ (tw hw 4 rfl)) (mvT hZ (tw hw 5 rfl)) (mvT hZ (tw hw 2 rfl)) (mvT hZ (tw hw 6 rfl)) (by decide) (backOf (W := 0) (rm1_3 l Z a0 hw [] w2 kw2 w1 w4 w5 w3 w7 w6 w8 h0 n0 Z0 S2 O0 V_w2 F_w1_lsLetter F_w4_lsLetter) hZ (tw hw 6 rfl) (tw hw 2 rfl) (by decide) (by decide)) (g := (mkF m 105 #[iv p0s, iv 1, iv 100, rv w4, .unset] [(.int 100)])) rfl (by rw [hml]; rfl) (argsL := [(.int 100)]) (rest := []) (lenOf pd_0 rfl) rfl (by show 2 * 0 + _ ≤ _; exact Nat.le_of_eq rfl) (hb hby at_105) (fun _ _ => ⟨rfl, e1, (by decide : 0 + 0 ≤ _), (by decide : 0 + 0 ≤ _)⟩)
    dsimp only [Pt.U, Pt.locs, Pt.cells, Pt.slots] at X2 l2 y2 z2 st2 hQ2
    subst l2 y2 z2
    obtain ⟨rfl, N2q, e2⟩ := hQ2
    have N2 := Fr.app N0 N2q
    obtain ⟨cq3, kq3, q3a, q3b, q3c⟩ := isOf hZ e2 (E_w4.ext O0.2)
    obtain ⟨_, _, ⟨T3, L3, k3x, n3⟩, -, X3, ⟨Lc3, hQ3, l3, y3, z3⟩, st3⟩ := X2.virtualBack hx (y := (⟨"com/example/umask/umask/FileType", "lsLetter", "()C"⟩ : MethodName)) (z := (⟨"com/example/umask/umask/FileType", "lsLetter", "()C"⟩ : MethodName)) hown (mvT hZ (tw hw 11 rfl)) (mvT hZ (tw hw 12 rfl)) (notFace_of_selects (args := #[]) (mvT hZ (tw hw 14 rfl))) (mvT hZ (tw hw 14 rfl)) (mvT hZ (tw hw 13 rfl)) (by decide) (backOf (W := 0) (rm2_4 l Z a0 hw [] w4 h0 n0 Z0 F_w4_lsLetter O0) hZ (tw hw 15 rfl) (tw hw 2 rfl) (by decide) (by decide)) q3a q3c (g := (mkF m 118 #[iv p0s, iv 1, iv 100, rv w4, rv w4] [(.ref w4)])) rfl (by rw [hml]; rfl) (Steps.refl _) (argsL := []) (rest := []) (lenOf pd_1 rfl) rfl (by show 2 * 0 + _ ≤ _; exact Nat.le_of_eq rfl) (hb hby at_118) (fun _ _ => ⟨rfl, e2, (by decide : 0 + 0 ≤ _), (by decide : 0 + 0 ≤ _)⟩)
    dsimp only [Pt.U, Pt.locs, Pt.cells, Pt.slots] at X3 l3 y3 z3 st3 hQ3
    subst l3 y3 z3
    obtain ⟨rfl, N3q, e3⟩ := hQ3
    have N3 := Fr.app N2 N3q
    obtain ⟨fs, hr, hrun, hended, hW, hsame⟩ := X3.leave (v := some (.int (1 : Int32))) (fun h => by rw [hre] at h; cases h)
    refine ⟨_, _, pre0 _ (pre1 _ (?_)), hrun, hended, _, _, rfl, ?_, ⟨_, rfl⟩, hW, hsame.mono (by decide) (by decide)⟩
    · show SF p e below s₁ (mkF m 7 #[iv p0s, .unset, .unset, .unset, .unset] [(.int ((p0s &&& (2147483647 : Int32)) % (7 : Int32)))]) _
      rw [hc1]
      show SF p e below s₁ (mkF m 7 #[iv p0s, .unset, .unset, .unset, .unset] [(.int 1)]) _
      refine XS.istoreN X0.here hx rfl (hb hby at_7) rfl (l' := #[iv p0s, iv 1, .unset, .unset, .unset]) rfl ?_
      show SF p e below s₁ (mkF m 8 #[iv p0s, iv 1, .unset, .unset, .unset] []) _
      refine XS.iloadN X0.here hx rfl (hb hby at_8) rfl ?_
      show SF p e below s₁ (mkF m 9 #[iv p0s, iv 1, .unset, .unset, .unset] [(.int 1)]) _
      refine XS.ifYes X0.here hx rfl (pc0 := 9) (pc' := 22) rfl (hb hby at_9) rfl ((if0 _ _).trans (feq (by decide : ¬ ((1 : Int32) = (0 : Int32)))).2) (by decide) (by decide) ?_
      show SF p e below s₁ (mkF m 22 #[iv p0s, iv 1, .unset, .unset, .unset] []) _
      refine XS.iloadN X0.here hx rfl (hb hby at_22) rfl ?_
      show SF p e below s₁ (mkF m 23 #[iv p0s, iv 1, .unset, .unset, .unset] [(.int 1)]) _
      refine XS.iconst X0.here hx rfl (hb hby at_23) ?_
      show SF p e below s₁ (mkF m 24 #[iv p0s, iv 1, .unset, .unset, .unset] [(.int 1), (.int 1)]) _
      refine XS.icmpNo X0.here hx rfl (hb hby at_24) rfl (teq (by decide : (1 : Int32) = (1 : Int32))).2 ?_
      show SF p e below s₁ (mkF m 27 #[iv p0s, iv 1, .unset, .unset, .unset] []) _
      refine XS.bipush X0.here hx rfl (hb hby at_27) ?_
      show SF p e below s₁ (mkF m 29 #[iv p0s, iv 1, .unset, .unset, .unset] [(.int 100)]) _
      refine XS.istoreN X0.here hx rfl (hb hby at_29) rfl (l' := #[iv p0s, iv 1, iv 100, .unset, .unset]) rfl ?_
      show SF p e below s₁ (mkF m 30 #[iv p0s, iv 1, iv 100, .unset, .unset] []) _
      refine st1 _ ?_
      show SF p e below T1 (mkF m 33 #[iv p0s, iv 1, iv 100, .unset, .unset] [(.ref w4)]) _
      refine XS.astoreN X1.here hx rfl (hb hby at_33) rfl rfl (l' := #[iv p0s, iv 1, iv 100, rv w4, .unset]) rfl ?_
      show SF p e below T1 (mkF m 34 #[iv p0s, iv 1, iv 100, rv w4, .unset] []) _
      refine XS.goto X1.here hx rfl (pc0 := 34) (pc' := 104) rfl (hb hby at_34) (by decide) (by decide) ?_
      show SF p e below T1 (mkF m 104 #[iv p0s, iv 1, iv 100, rv w4, .unset] []) _
      refine XS.iloadN X1.here hx rfl (hb hby at_104) rfl ?_
      show SF p e below T1 (mkF m 105 #[iv p0s, iv 1, iv 100, rv w4, .unset] [(.int 100)]) _
      refine st2 _ ?_
      show SF p e below T2 (mkF m 108 #[iv p0s, iv 1, iv 100, rv w4, .unset] [(.ref w4)]) _
      refine XS.astore X2.here hx rfl (hb hby at_108) rfl rfl (l' := #[iv p0s, iv 1, iv 100, rv w4, rv w4]) rfl ?_
      show SF p e below T2 (mkF m 110 #[iv p0s, iv 1, iv 100, rv w4, rv w4] []) _
      refine XS.aload X2.here hx rfl (hb hby at_110) rfl rfl ?_
      show SF p e below T2 (mkF m 112 #[iv p0s, iv 1, iv 100, rv w4, rv w4] [(.ref w4)]) _
      refine XS.aloadN X2.here hx rfl (hb hby at_112) rfl rfl ?_
      show SF p e below T2 (mkF m 113 #[iv p0s, iv 1, iv 100, rv w4, rv w4] [(.ref w4), (.ref w4)]) _
      refine Jvm.RoadKit.acmp (g := (mkF m 113 #[iv p0s, iv 1, iv 100, rv w4, rv w4] [(.ref w4), (.ref w4)])) X2 hx rfl rfl rfl (pc0 := 113) (pc' := 116) (same := true) rfl (hb hby at_113) rfl (decide_eq_true rfl) (by decide) (by decide) ?_
      show SF p e below T2 (mkF m 116 #[iv p0s, iv 1, iv 100, rv w4, rv w4] []) _
      refine XS.aload X2.here hx rfl (hb hby at_116) rfl rfl ?_
      show SF p e below T2 (mkF m 118 #[iv p0s, iv 1, iv 100, rv w4, rv w4] [(.ref w4)]) _
      refine st3.trans ?_
      show SF p e below T3 (mkF m 121 #[iv p0s, iv 1, iv 100, rv w4, rv w4] [(.int 100)]) _
      refine XS.iloadN X3.here hx rfl (hb hby at_121) rfl ?_
      show SF p e below T3 (mkF m 122 #[iv p0s, iv 1, iv 100, rv w4, rv w4] [(.int 100), (.int 100)]) _
      refine XS.icmpNo X3.here hx rfl (hb hby at_122) rfl (teq (by decide : (100 : Int32) = (100 : Int32))).2 ?_
      show SF p e below T3 (mkF m 125 #[iv p0s, iv 1, iv 100, rv w4, rv w4] []) _
      refine XS.iconst X3.here hx rfl (hb hby at_125) ?_
      show SF p e below T3 (mkF m 126 #[iv p0s, iv 1, iv 100, rv w4, rv w4] [(.int 1)]) _
      refine XS.goto X3.here hx rfl (pc0 := 126) (pc' := 130) rfl (hb hby at_126) (by decide) (by decide) ?_
      show SF p e below T3 (mkF m 130 #[iv p0s, iv 1, iv 100, rv w4, rv w4] [(.int 1)]) _
      exact retN X3 hx (t := .boolean) hre (by simp) (hb hby at_130) hr
    · exact ⟨rfl, N3⟩
  · obtain ⟨T1, X1, e1, st1⟩ := getS2 X0 hx hZ hown (host := "") (Or.inl (tw hw 26 rfl)) Via.refl e0 (S7.ext O0.2) (g := (mkF m 45 #[iv p0s, iv 2, iv 108, .unset, .unset] [])) rfl (hb hby at_45)
    obtain ⟨_, _, ⟨T2, L2, k2x, n2⟩, -, X2, ⟨Lc2, hQ2, l2, y2, z2⟩, st2⟩ := Jvm.LawKit.callS X1 hx (y := (⟨"com/example/umask/umask/FileType", "fromLsLetter", "(C)Lcom/example/umask/umask/FileType;"⟩ : MethodName)) hown (mvT hZ (tw hw 4 rfl)) (mvT hZ (tw hw 5 rfl)) (mvT hZ (tw hw 2 rfl)) (mvT hZ (tw hw 6 rfl)) (by decide) (backOf (W := 0) (rm1_5 l Z a0 hw [] w2 kw2 w1 w4 w5 w3 w7 w6 w8 h0 n0 Z0 S2 O0 V_w2 F_w1_lsLetter F_w4_lsLetter F_w5_lsLetter) hZ (tw hw 6 rfl) (tw hw 2 rfl) (by decide) (by decide)) (g := (mkF m 105 #[iv p0s, iv 2, iv 108, rv w5, .unset] [(.int 108)])) rfl (by rw [hml]; rfl) (argsL := [(.int 108)]) (rest := []) (lenOf pd_0 rfl) rfl (by show 2 * 0 + _ ≤ _; exact Nat.le_of_eq rfl) (hb hby at_105) (fun _ _ => ⟨rfl, e1, (by decide : 0 + 0 ≤ _), (by decide : 0 + 0 ≤ _)⟩)
    dsimp only [Pt.U, Pt.locs, Pt.cells, Pt.slots] at X2 l2 y2 z2 st2 hQ2
    subst l2 y2 z2
    obtain ⟨rfl, N2q, e2⟩ := hQ2
    have N2 := Fr.app N0 N2q
    obtain ⟨cq3, kq3, q3a, q3b, q3c⟩ := isOf hZ e2 (E_w5.ext O0.2)
    obtain ⟨_, _, ⟨T3, L3, k3x, n3⟩, -, X3, ⟨Lc3, hQ3, l3, y3, z3⟩, st3⟩ := X2.virtualBack hx (y := (⟨"com/example/umask/umask/FileType", "lsLetter", "()C"⟩ : MethodName)) (z := (⟨"com/example/umask/umask/FileType", "lsLetter", "()C"⟩ : MethodName)) hown (mvT hZ (tw hw 11 rfl)) (mvT hZ (tw hw 12 rfl)) (notFace_of_selects (args := #[]) (mvT hZ (tw hw 14 rfl))) (mvT hZ (tw hw 14 rfl)) (mvT hZ (tw hw 13 rfl)) (by decide) (backOf (W := 0) (rm2_6 l Z a0 hw [] w5 h0 n0 Z0 F_w5_lsLetter O0) hZ (tw hw 15 rfl) (tw hw 2 rfl) (by decide) (by decide)) q3a q3c (g := (mkF m 118 #[iv p0s, iv 2, iv 108, rv w5, rv w5] [(.ref w5)])) rfl (by rw [hml]; rfl) (Steps.refl _) (argsL := []) (rest := []) (lenOf pd_1 rfl) rfl (by show 2 * 0 + _ ≤ _; exact Nat.le_of_eq rfl) (hb hby at_118) (fun _ _ => ⟨rfl, e2, (by decide : 0 + 0 ≤ _), (by decide : 0 + 0 ≤ _)⟩)
    dsimp only [Pt.U, Pt.locs, Pt.cells, Pt.slots] at X3 l3 y3 z3 st3 hQ3
    subst l3 y3 z3
    obtain ⟨rfl, N3q, e3⟩ := hQ3
    have N3 := Fr.app N2 N3q
    obtain ⟨fs, hr, hrun, hended, hW, hsame⟩ := X3.leave (v := some (.int (1 : Int32))) (fun h => by rw [hre] at h; cases h)
    refine ⟨_, _, pre0 _ (pre1 _ (?_)), hrun, hended, _, _, rfl, ?_, ⟨_, rfl⟩, hW, hsame.mono (by decide) (by decide)⟩
    · show SF p e below s₁ (mkF m 7 #[iv p0s, .unset, .unset, .unset, .unset] [(.int ((p0s &&& (2147483647 : Int32)) % (7 : Int32)))]) _
      rw [hc1]
      show SF p e below s₁ (mkF m 7 #[iv p0s, .unset, .unset, .unset, .unset] [(.int 2)]) _
      refine XS.istoreN X0.here hx rfl (hb hby at_7) rfl (l' := #[iv p0s, iv 2, .unset, .unset, .unset]) rfl ?_
      show SF p e below s₁ (mkF m 8 #[iv p0s, iv 2, .unset, .unset, .unset] []) _
      refine XS.iloadN X0.here hx rfl (hb hby at_8) rfl ?_
      show SF p e below s₁ (mkF m 9 #[iv p0s, iv 2, .unset, .unset, .unset] [(.int 2)]) _
      refine XS.ifYes X0.here hx rfl (pc0 := 9) (pc' := 22) rfl (hb hby at_9) rfl ((if0 _ _).trans (feq (by decide : ¬ ((2 : Int32) = (0 : Int32)))).2) (by decide) (by decide) ?_
      show SF p e below s₁ (mkF m 22 #[iv p0s, iv 2, .unset, .unset, .unset] []) _
      refine XS.iloadN X0.here hx rfl (hb hby at_22) rfl ?_
      show SF p e below s₁ (mkF m 23 #[iv p0s, iv 2, .unset, .unset, .unset] [(.int 2)]) _
      refine XS.iconst X0.here hx rfl (hb hby at_23) ?_
      show SF p e below s₁ (mkF m 24 #[iv p0s, iv 2, .unset, .unset, .unset] [(.int 1), (.int 2)]) _
      refine XS.icmpYes X0.here hx rfl (pc0 := 24) (pc' := 37) rfl (hb hby at_24) rfl (feq (by decide : ¬ ((2 : Int32) = (1 : Int32)))).2 (by decide) (by decide) ?_
      show SF p e below s₁ (mkF m 37 #[iv p0s, iv 2, .unset, .unset, .unset] []) _
      refine XS.iloadN X0.here hx rfl (hb hby at_37) rfl ?_
      show SF p e below s₁ (mkF m 38 #[iv p0s, iv 2, .unset, .unset, .unset] [(.int 2)]) _
      refine XS.iconst X0.here hx rfl (hb hby at_38) ?_
      show SF p e below s₁ (mkF m 39 #[iv p0s, iv 2, .unset, .unset, .unset] [(.int 2), (.int 2)]) _
      refine XS.icmpNo X0.here hx rfl (hb hby at_39) rfl (teq (by decide : (2 : Int32) = (2 : Int32))).2 ?_
      show SF p e below s₁ (mkF m 42 #[iv p0s, iv 2, .unset, .unset, .unset] []) _
      refine XS.bipush X0.here hx rfl (hb hby at_42) ?_
      show SF p e below s₁ (mkF m 44 #[iv p0s, iv 2, .unset, .unset, .unset] [(.int 108)]) _
      refine XS.istoreN X0.here hx rfl (hb hby at_44) rfl (l' := #[iv p0s, iv 2, iv 108, .unset, .unset]) rfl ?_
      show SF p e below s₁ (mkF m 45 #[iv p0s, iv 2, iv 108, .unset, .unset] []) _
      refine st1 _ ?_
      show SF p e below T1 (mkF m 48 #[iv p0s, iv 2, iv 108, .unset, .unset] [(.ref w5)]) _
      refine XS.astoreN X1.here hx rfl (hb hby at_48) rfl rfl (l' := #[iv p0s, iv 2, iv 108, rv w5, .unset]) rfl ?_
      show SF p e below T1 (mkF m 49 #[iv p0s, iv 2, iv 108, rv w5, .unset] []) _
      refine XS.goto X1.here hx rfl (pc0 := 49) (pc' := 104) rfl (hb hby at_49) (by decide) (by decide) ?_
      show SF p e below T1 (mkF m 104 #[iv p0s, iv 2, iv 108, rv w5, .unset] []) _
      refine XS.iloadN X1.here hx rfl (hb hby at_104) rfl ?_
      show SF p e below T1 (mkF m 105 #[iv p0s, iv 2, iv 108, rv w5, .unset] [(.int 108)]) _
      refine st2 _ ?_
      show SF p e below T2 (mkF m 108 #[iv p0s, iv 2, iv 108, rv w5, .unset] [(.ref w5)]) _
      refine XS.astore X2.here hx rfl (hb hby at_108) rfl rfl (l' := #[iv p0s, iv 2, iv 108, rv w5, rv w5]) rfl ?_
      show SF p e below T2 (mkF m 110 #[iv p0s, iv 2, iv 108, rv w5, rv w5] []) _
      refine XS.aload X2.here hx rfl (hb hby at_110) rfl rfl ?_
      show SF p e below T2 (mkF m 112 #[iv p0s, iv 2, iv 108, rv w5, rv w5] [(.ref w5)]) _
      refine XS.aloadN X2.here hx rfl (hb hby at_112) rfl rfl ?_
      show SF p e below T2 (mkF m 113 #[iv p0s, iv 2, iv 108, rv w5, rv w5] [(.ref w5), (.ref w5)]) _
      refine Jvm.RoadKit.acmp (g := (mkF m 113 #[iv p0s, iv 2, iv 108, rv w5, rv w5] [(.ref w5), (.ref w5)])) X2 hx rfl rfl rfl (pc0 := 113) (pc' := 116) (same := true) rfl (hb hby at_113) rfl (decide_eq_true rfl) (by decide) (by decide) ?_
      show SF p e below T2 (mkF m 116 #[iv p0s, iv 2, iv 108, rv w5, rv w5] []) _
      refine XS.aload X2.here hx rfl (hb hby at_116) rfl rfl ?_
      show SF p e below T2 (mkF m 118 #[iv p0s, iv 2, iv 108, rv w5, rv w5] [(.ref w5)]) _
      refine st3.trans ?_
      show SF p e below T3 (mkF m 121 #[iv p0s, iv 2, iv 108, rv w5, rv w5] [(.int 108)]) _
      refine XS.iloadN X3.here hx rfl (hb hby at_121) rfl ?_
      show SF p e below T3 (mkF m 122 #[iv p0s, iv 2, iv 108, rv w5, rv w5] [(.int 108), (.int 108)]) _
      refine XS.icmpNo X3.here hx rfl (hb hby at_122) rfl (teq (by decide : (108 : Int32) = (108 : Int32))).2 ?_
      show SF p e below T3 (mkF m 125 #[iv p0s, iv 2, iv 108, rv w5, rv w5] []) _
      refine XS.iconst X3.here hx rfl (hb hby at_125) ?_
      show SF p e below T3 (mkF m 126 #[iv p0s, iv 2, iv 108, rv w5, rv w5] [(.int 1)]) _
      refine XS.goto X3.here hx rfl (pc0 := 126) (pc' := 130) rfl (hb hby at_126) (by decide) (by decide) ?_
      show SF p e below T3 (mkF m 130 #[iv p0s, iv 2, iv 108, rv w5, rv w5] [(.int 1)]) _
      exact retN X3 hx (t := .boolean) hre (by simp) (hb hby at_130) hr
    · exact ⟨rfl, N3⟩
  · obtain ⟨T1, X1, e1, st1⟩ := getS2 X0 hx hZ hown (host := "") (Or.inl (tw hw 16 rfl)) Via.refl e0 (S3.ext O0.2) (g := (mkF m 60 #[iv p0s, iv 3, iv 99, .unset, .unset] [])) rfl (hb hby at_60)
    obtain ⟨_, _, ⟨T2, L2, k2x, n2⟩, -, X2, ⟨Lc2, hQ2, l2, y2, z2⟩, st2⟩ := Jvm.LawKit.callS X1 hx (y := (⟨"com/example/umask/umask/FileType", "fromLsLetter", "(C)Lcom/example/umask/umask/FileType;"⟩ : MethodName)) hown (mvT hZ (tw hw 4 rfl)) (mvT hZ (tw hw 5 rfl)) (mvT hZ (tw hw 2 rfl)) (mvT hZ (tw hw 6 rfl)) (by decide) (backOf (W := 0) (rm1_7 l Z a0 hw [] w2 kw2 w1 w4 w5 w3 w7 w6 w8 h0 n0 Z0 S2 O0 V_w2 F_w1_lsLetter F_w4_lsLetter F_w5_lsLetter F_w3_lsLetter) hZ (tw hw 6 rfl) (tw hw 2 rfl) (by decide) (by decide)) (g := (mkF m 105 #[iv p0s, iv 3, iv 99, rv w3, .unset] [(.int 99)])) rfl (by rw [hml]; rfl) (argsL := [(.int 99)]) (rest := []) (lenOf pd_0 rfl) rfl (by show 2 * 0 + _ ≤ _; exact Nat.le_of_eq rfl) (hb hby at_105) (fun _ _ => ⟨rfl, e1, (by decide : 0 + 0 ≤ _), (by decide : 0 + 0 ≤ _)⟩)
    dsimp only [Pt.U, Pt.locs, Pt.cells, Pt.slots] at X2 l2 y2 z2 st2 hQ2
    subst l2 y2 z2
    obtain ⟨rfl, N2q, e2⟩ := hQ2
    have N2 := Fr.app N0 N2q
    obtain ⟨cq3, kq3, q3a, q3b, q3c⟩ := isOf hZ e2 (E_w3.ext O0.2)
    obtain ⟨_, _, ⟨T3, L3, k3x, n3⟩, -, X3, ⟨Lc3, hQ3, l3, y3, z3⟩, st3⟩ := X2.virtualBack hx (y := (⟨"com/example/umask/umask/FileType", "lsLetter", "()C"⟩ : MethodName)) (z := (⟨"com/example/umask/umask/FileType", "lsLetter", "()C"⟩ : MethodName)) hown (mvT hZ (tw hw 11 rfl)) (mvT hZ (tw hw 12 rfl)) (notFace_of_selects (args := #[]) (mvT hZ (tw hw 14 rfl))) (mvT hZ (tw hw 14 rfl)) (mvT hZ (tw hw 13 rfl)) (by decide) (backOf (W := 0) (rm2_8 l Z a0 hw [] w3 h0 n0 Z0 F_w3_lsLetter O0) hZ (tw hw 15 rfl) (tw hw 2 rfl) (by decide) (by decide)) q3a q3c (g := (mkF m 118 #[iv p0s, iv 3, iv 99, rv w3, rv w3] [(.ref w3)])) rfl (by rw [hml]; rfl) (Steps.refl _) (argsL := []) (rest := []) (lenOf pd_1 rfl) rfl (by show 2 * 0 + _ ≤ _; exact Nat.le_of_eq rfl) (hb hby at_118) (fun _ _ => ⟨rfl, e2, (by decide : 0 + 0 ≤ _), (by decide : 0 + 0 ≤ _)⟩)
    dsimp only [Pt.U, Pt.locs, Pt.cells, Pt.slots] at X3 l3 y3 z3 st3 hQ3
    subst l3 y3 z3
    obtain ⟨rfl, N3q, e3⟩ := hQ3
    have N3 := Fr.app N2 N3q
    obtain ⟨fs, hr, hrun, hended, hW, hsame⟩ := X3.leave (v := some (.int (1 : Int32))) (fun h => by rw [hre] at h; cases h)
    refine ⟨_, _, pre0 _ (pre1 _ (?_)), hrun, hended, _, _, rfl, ?_, ⟨_, rfl⟩, hW, hsame.mono (by decide) (by decide)⟩
    · show SF p e below s₁ (mkF m 7 #[iv p0s, .unset, .unset, .unset, .unset] [(.int ((p0s &&& (2147483647 : Int32)) % (7 : Int32)))]) _
      rw [hc1]
      show SF p e below s₁ (mkF m 7 #[iv p0s, .unset, .unset, .unset, .unset] [(.int 3)]) _
      refine XS.istoreN X0.here hx rfl (hb hby at_7) rfl (l' := #[iv p0s, iv 3, .unset, .unset, .unset]) rfl ?_
      show SF p e below s₁ (mkF m 8 #[iv p0s, iv 3, .unset, .unset, .unset] []) _
      refine XS.iloadN X0.here hx rfl (hb hby at_8) rfl ?_
      show SF p e below s₁ (mkF m 9 #[iv p0s, iv 3, .unset, .unset, .unset] [(.int 3)]) _
      refine XS.ifYes X0.here hx rfl (pc0 := 9) (pc' := 22) rfl (hb hby at_9) rfl ((if0 _ _).trans (feq (by decide : ¬ ((3 : Int32) = (0 : Int32)))).2) (by decide) (by decide) ?_
      show SF p e below s₁ (mkF m 22 #[iv p0s, iv 3, .unset, .unset, .unset] []) _
      refine XS.iloadN X0.here hx rfl (hb hby at_22) rfl ?_
      show SF p e below s₁ (mkF m 23 #[iv p0s, iv 3, .unset, .unset, .unset] [(.int 3)]) _
      refine XS.iconst X0.here hx rfl (hb hby at_23) ?_
      show SF p e below s₁ (mkF m 24 #[iv p0s, iv 3, .unset, .unset, .unset] [(.int 1), (.int 3)]) _
      refine XS.icmpYes X0.here hx rfl (pc0 := 24) (pc' := 37) rfl (hb hby at_24) rfl (feq (by decide : ¬ ((3 : Int32) = (1 : Int32)))).2 (by decide) (by decide) ?_
      show SF p e below s₁ (mkF m 37 #[iv p0s, iv 3, .unset, .unset, .unset] []) _
      refine XS.iloadN X0.here hx rfl (hb hby at_37) rfl ?_
      show SF p e below s₁ (mkF m 38 #[iv p0s, iv 3, .unset, .unset, .unset] [(.int 3)]) _
      refine XS.iconst X0.here hx rfl (hb hby at_38) ?_
      show SF p e below s₁ (mkF m 39 #[iv p0s, iv 3, .unset, .unset, .unset] [(.int 2), (.int 3)]) _
      refine XS.icmpYes X0.here hx rfl (pc0 := 39) (pc' := 52) rfl (hb hby at_39) rfl (feq (by decide : ¬ ((3 : Int32) = (2 : Int32)))).2 (by decide) (by decide) ?_
      show SF p e below s₁ (mkF m 52 #[iv p0s, iv 3, .unset, .unset, .unset] []) _
      refine XS.iloadN X0.here hx rfl (hb hby at_52) rfl ?_
      show SF p e below s₁ (mkF m 53 #[iv p0s, iv 3, .unset, .unset, .unset] [(.int 3)]) _
      refine XS.iconst X0.here hx rfl (hb hby at_53) ?_
      show SF p e below s₁ (mkF m 54 #[iv p0s, iv 3, .unset, .unset, .unset] [(.int 3), (.int 3)]) _
      refine XS.icmpNo X0.here hx rfl (hb hby at_54) rfl (teq (by decide : (3 : Int32) = (3 : Int32))).2 ?_
      show SF p e below s₁ (mkF m 57 #[iv p0s, iv 3, .unset, .unset, .unset] []) _
      refine XS.bipush X0.here hx rfl (hb hby at_57) ?_
      show SF p e below s₁ (mkF m 59 #[iv p0s, iv 3, .unset, .unset, .unset] [(.int 99)]) _
      refine XS.istoreN X0.here hx rfl (hb hby at_59) rfl (l' := #[iv p0s, iv 3, iv 99, .unset, .unset]) rfl ?_
      show SF p e below s₁ (mkF m 60 #[iv p0s, iv 3, iv 99, .unset, .unset] []) _
      refine st1 _ ?_
      show SF p e below T1 (mkF m 63 #[iv p0s, iv 3, iv 99, .unset, .unset] [(.ref w3)]) _
      refine XS.astoreN X1.here hx rfl (hb hby at_63) rfl rfl (l' := #[iv p0s, iv 3, iv 99, rv w3, .unset]) rfl ?_
      show SF p e below T1 (mkF m 64 #[iv p0s, iv 3, iv 99, rv w3, .unset] []) _
      refine XS.goto X1.here hx rfl (pc0 := 64) (pc' := 104) rfl (hb hby at_64) (by decide) (by decide) ?_
      show SF p e below T1 (mkF m 104 #[iv p0s, iv 3, iv 99, rv w3, .unset] []) _
      refine XS.iloadN X1.here hx rfl (hb hby at_104) rfl ?_
      show SF p e below T1 (mkF m 105 #[iv p0s, iv 3, iv 99, rv w3, .unset] [(.int 99)]) _
      refine st2 _ ?_
      show SF p e below T2 (mkF m 108 #[iv p0s, iv 3, iv 99, rv w3, .unset] [(.ref w3)]) _
      refine XS.astore X2.here hx rfl (hb hby at_108) rfl rfl (l' := #[iv p0s, iv 3, iv 99, rv w3, rv w3]) rfl ?_
      show SF p e below T2 (mkF m 110 #[iv p0s, iv 3, iv 99, rv w3, rv w3] []) _
      refine XS.aload X2.here hx rfl (hb hby at_110) rfl rfl ?_
      show SF p e below T2 (mkF m 112 #[iv p0s, iv 3, iv 99, rv w3, rv w3] [(.ref w3)]) _
      refine XS.aloadN X2.here hx rfl (hb hby at_112) rfl rfl ?_
      show SF p e below T2 (mkF m 113 #[iv p0s, iv 3, iv 99, rv w3, rv w3] [(.ref w3), (.ref w3)]) _
      refine Jvm.RoadKit.acmp (g := (mkF m 113 #[iv p0s, iv 3, iv 99, rv w3, rv w3] [(.ref w3), (.ref w3)])) X2 hx rfl rfl rfl (pc0 := 113) (pc' := 116) (same := true) rfl (hb hby at_113) rfl (decide_eq_true rfl) (by decide) (by decide) ?_
      show SF p e below T2 (mkF m 116 #[iv p0s, iv 3, iv 99, rv w3, rv w3] []) _
      refine XS.aload X2.here hx rfl (hb hby at_116) rfl rfl ?_
      show SF p e below T2 (mkF m 118 #[iv p0s, iv 3, iv 99, rv w3, rv w3] [(.ref w3)]) _
      refine st3.trans ?_
      show SF p e below T3 (mkF m 121 #[iv p0s, iv 3, iv 99, rv w3, rv w3] [(.int 99)]) _
      refine XS.iloadN X3.here hx rfl (hb hby at_121) rfl ?_
      show SF p e below T3 (mkF m 122 #[iv p0s, iv 3, iv 99, rv w3, rv w3] [(.int 99), (.int 99)]) _
      refine XS.icmpNo X3.here hx rfl (hb hby at_122) rfl (teq (by decide : (99 : Int32) = (99 : Int32))).2 ?_
      show SF p e below T3 (mkF m 125 #[iv p0s, iv 3, iv 99, rv w3, rv w3] []) _
      refine XS.iconst X3.here hx rfl (hb hby at_125) ?_
      show SF p e below T3 (mkF m 126 #[iv p0s, iv 3, iv 99, rv w3, rv w3] [(.int 1)]) _
      refine XS.goto X3.here hx rfl (pc0 := 126) (pc' := 130) rfl (hb hby at_126) (by decide) (by decide) ?_
      show SF p e below T3 (mkF m 130 #[iv p0s, iv 3, iv 99, rv w3, rv w3] [(.int 1)]) _
      exact retN X3 hx (t := .boolean) hre (by simp) (hb hby at_130) hr
    · exact ⟨rfl, N3⟩
  · obtain ⟨T1, X1, e1, st1⟩ := getS2 X0 hx hZ hown (host := "") (Or.inl (tw hw 25 rfl)) Via.refl e0 (S11.ext O0.2) (g := (mkF m 75 #[iv p0s, iv 4, iv 98, .unset, .unset] [])) rfl (hb hby at_75)
    obtain ⟨_, _, ⟨T2, L2, k2x, n2⟩, -, X2, ⟨Lc2, hQ2, l2, y2, z2⟩, st2⟩ := Jvm.LawKit.callS X1 hx (y := (⟨"com/example/umask/umask/FileType", "fromLsLetter", "(C)Lcom/example/umask/umask/FileType;"⟩ : MethodName)) hown (mvT hZ (tw hw 4 rfl)) (mvT hZ (tw hw 5 rfl)) (mvT hZ (tw hw 2 rfl)) (mvT hZ (tw hw 6 rfl)) (by decide) (backOf (W := 0) (rm1_9 l Z a0 hw [] w2 kw2 w1 w4 w5 w3 w7 w6 w8 h0 n0 Z0 S2 O0 V_w2 F_w1_lsLetter F_w4_lsLetter F_w5_lsLetter F_w3_lsLetter F_w7_lsLetter) hZ (tw hw 6 rfl) (tw hw 2 rfl) (by decide) (by decide)) (g := (mkF m 105 #[iv p0s, iv 4, iv 98, rv w7, .unset] [(.int 98)])) rfl (by rw [hml]; rfl) (argsL := [(.int 98)]) (rest := []) (lenOf pd_0 rfl) rfl (by show 2 * 0 + _ ≤ _; exact Nat.le_of_eq rfl) (hb hby at_105) (fun _ _ => ⟨rfl, e1, (by decide : 0 + 0 ≤ _), (by decide : 0 + 0 ≤ _)⟩)
    dsimp only [Pt.U, Pt.locs, Pt.cells, Pt.slots] at X2 l2 y2 z2 st2 hQ2
    subst l2 y2 z2
    obtain ⟨rfl, N2q, e2⟩ := hQ2
    have N2 := Fr.app N0 N2q
    obtain ⟨cq3, kq3, q3a, q3b, q3c⟩ := isOf hZ e2 (E_w7.ext O0.2)
    obtain ⟨_, _, ⟨T3, L3, k3x, n3⟩, -, X3, ⟨Lc3, hQ3, l3, y3, z3⟩, st3⟩ := X2.virtualBack hx (y := (⟨"com/example/umask/umask/FileType", "lsLetter", "()C"⟩ : MethodName)) (z := (⟨"com/example/umask/umask/FileType", "lsLetter", "()C"⟩ : MethodName)) hown (mvT hZ (tw hw 11 rfl)) (mvT hZ (tw hw 12 rfl)) (notFace_of_selects (args := #[]) (mvT hZ (tw hw 14 rfl))) (mvT hZ (tw hw 14 rfl)) (mvT hZ (tw hw 13 rfl)) (by decide) (backOf (W := 0) (rm2_10 l Z a0 hw [] w7 h0 n0 Z0 F_w7_lsLetter O0) hZ (tw hw 15 rfl) (tw hw 2 rfl) (by decide) (by decide)) q3a q3c (g := (mkF m 118 #[iv p0s, iv 4, iv 98, rv w7, rv w7] [(.ref w7)])) rfl (by rw [hml]; rfl) (Steps.refl _) (argsL := []) (rest := []) (lenOf pd_1 rfl) rfl (by show 2 * 0 + _ ≤ _; exact Nat.le_of_eq rfl) (hb hby at_118) (fun _ _ => ⟨rfl, e2, (by decide : 0 + 0 ≤ _), (by decide : 0 + 0 ≤ _)⟩)
    dsimp only [Pt.U, Pt.locs, Pt.cells, Pt.slots] at X3 l3 y3 z3 st3 hQ3
    subst l3 y3 z3
    obtain ⟨rfl, N3q, e3⟩ := hQ3
    have N3 := Fr.app N2 N3q
    obtain ⟨fs, hr, hrun, hended, hW, hsame⟩ := X3.leave (v := some (.int (1 : Int32))) (fun h => by rw [hre] at h; cases h)
    refine ⟨_, _, pre0 _ (pre1 _ (?_)), hrun, hended, _, _, rfl, ?_, ⟨_, rfl⟩, hW, hsame.mono (by decide) (by decide)⟩
    · show SF p e below s₁ (mkF m 7 #[iv p0s, .unset, .unset, .unset, .unset] [(.int ((p0s &&& (2147483647 : Int32)) % (7 : Int32)))]) _
      rw [hc1]
      show SF p e below s₁ (mkF m 7 #[iv p0s, .unset, .unset, .unset, .unset] [(.int 4)]) _
      refine XS.istoreN X0.here hx rfl (hb hby at_7) rfl (l' := #[iv p0s, iv 4, .unset, .unset, .unset]) rfl ?_
      show SF p e below s₁ (mkF m 8 #[iv p0s, iv 4, .unset, .unset, .unset] []) _
      refine XS.iloadN X0.here hx rfl (hb hby at_8) rfl ?_
      show SF p e below s₁ (mkF m 9 #[iv p0s, iv 4, .unset, .unset, .unset] [(.int 4)]) _
      refine XS.ifYes X0.here hx rfl (pc0 := 9) (pc' := 22) rfl (hb hby at_9) rfl ((if0 _ _).trans (feq (by decide : ¬ ((4 : Int32) = (0 : Int32)))).2) (by decide) (by decide) ?_
      show SF p e below s₁ (mkF m 22 #[iv p0s, iv 4, .unset, .unset, .unset] []) _
      refine XS.iloadN X0.here hx rfl (hb hby at_22) rfl ?_
      show SF p e below s₁ (mkF m 23 #[iv p0s, iv 4, .unset, .unset, .unset] [(.int 4)]) _
      refine XS.iconst X0.here hx rfl (hb hby at_23) ?_
      show SF p e below s₁ (mkF m 24 #[iv p0s, iv 4, .unset, .unset, .unset] [(.int 1), (.int 4)]) _
      refine XS.icmpYes X0.here hx rfl (pc0 := 24) (pc' := 37) rfl (hb hby at_24) rfl (feq (by decide : ¬ ((4 : Int32) = (1 : Int32)))).2 (by decide) (by decide) ?_
      show SF p e below s₁ (mkF m 37 #[iv p0s, iv 4, .unset, .unset, .unset] []) _
      refine XS.iloadN X0.here hx rfl (hb hby at_37) rfl ?_
      show SF p e below s₁ (mkF m 38 #[iv p0s, iv 4, .unset, .unset, .unset] [(.int 4)]) _
      refine XS.iconst X0.here hx rfl (hb hby at_38) ?_
      show SF p e below s₁ (mkF m 39 #[iv p0s, iv 4, .unset, .unset, .unset] [(.int 2), (.int 4)]) _
      refine XS.icmpYes X0.here hx rfl (pc0 := 39) (pc' := 52) rfl (hb hby at_39) rfl (feq (by decide : ¬ ((4 : Int32) = (2 : Int32)))).2 (by decide) (by decide) ?_
      show SF p e below s₁ (mkF m 52 #[iv p0s, iv 4, .unset, .unset, .unset] []) _
      refine XS.iloadN X0.here hx rfl (hb hby at_52) rfl ?_
      show SF p e below s₁ (mkF m 53 #[iv p0s, iv 4, .unset, .unset, .unset] [(.int 4)]) _
      refine XS.iconst X0.here hx rfl (hb hby at_53) ?_
      show SF p e below s₁ (mkF m 54 #[iv p0s, iv 4, .unset, .unset, .unset] [(.int 3), (.int 4)]) _
      refine XS.icmpYes X0.here hx rfl (pc0 := 54) (pc' := 67) rfl (hb hby at_54) rfl (feq (by decide : ¬ ((4 : Int32) = (3 : Int32)))).2 (by decide) (by decide) ?_
      show SF p e below s₁ (mkF m 67 #[iv p0s, iv 4, .unset, .unset, .unset] []) _
      refine XS.iloadN X0.here hx rfl (hb hby at_67) rfl ?_
      show SF p e below s₁ (mkF m 68 #[iv p0s, iv 4, .unset, .unset, .unset] [(.int 4)]) _
      refine XS.iconst X0.here hx rfl (hb hby at_68) ?_
      show SF p e below s₁ (mkF m 69 #[iv p0s, iv 4, .unset, .unset, .unset] [(.int 4), (.int 4)]) _
      refine XS.icmpNo X0.here hx rfl (hb hby at_69) rfl (teq (by decide : (4 : Int32) = (4 : Int32))).2 ?_
      show SF p e below s₁ (mkF m 72 #[iv p0s, iv 4, .unset, .unset, .unset] []) _
      refine XS.bipush X0.here hx rfl (hb hby at_72) ?_
      show SF p e below s₁ (mkF m 74 #[iv p0s, iv 4, .unset, .unset, .unset] [(.int 98)]) _
      refine XS.istoreN X0.here hx rfl (hb hby at_74) rfl (l' := #[iv p0s, iv 4, iv 98, .unset, .unset]) rfl ?_
      show SF p e below s₁ (mkF m 75 #[iv p0s, iv 4, iv 98, .unset, .unset] []) _
      refine st1 _ ?_
      show SF p e below T1 (mkF m 78 #[iv p0s, iv 4, iv 98, .unset, .unset] [(.ref w7)]) _
      refine XS.astoreN X1.here hx rfl (hb hby at_78) rfl rfl (l' := #[iv p0s, iv 4, iv 98, rv w7, .unset]) rfl ?_
      show SF p e below T1 (mkF m 79 #[iv p0s, iv 4, iv 98, rv w7, .unset] []) _
      refine XS.goto X1.here hx rfl (pc0 := 79) (pc' := 104) rfl (hb hby at_79) (by decide) (by decide) ?_
      show SF p e below T1 (mkF m 104 #[iv p0s, iv 4, iv 98, rv w7, .unset] []) _
      refine XS.iloadN X1.here hx rfl (hb hby at_104) rfl ?_
      show SF p e below T1 (mkF m 105 #[iv p0s, iv 4, iv 98, rv w7, .unset] [(.int 98)]) _
      refine st2 _ ?_
      show SF p e below T2 (mkF m 108 #[iv p0s, iv 4, iv 98, rv w7, .unset] [(.ref w7)]) _
      refine XS.astore X2.here hx rfl (hb hby at_108) rfl rfl (l' := #[iv p0s, iv 4, iv 98, rv w7, rv w7]) rfl ?_
      show SF p e below T2 (mkF m 110 #[iv p0s, iv 4, iv 98, rv w7, rv w7] []) _
      refine XS.aload X2.here hx rfl (hb hby at_110) rfl rfl ?_
      show SF p e below T2 (mkF m 112 #[iv p0s, iv 4, iv 98, rv w7, rv w7] [(.ref w7)]) _
      refine XS.aloadN X2.here hx rfl (hb hby at_112) rfl rfl ?_
      show SF p e below T2 (mkF m 113 #[iv p0s, iv 4, iv 98, rv w7, rv w7] [(.ref w7), (.ref w7)]) _
      refine Jvm.RoadKit.acmp (g := (mkF m 113 #[iv p0s, iv 4, iv 98, rv w7, rv w7] [(.ref w7), (.ref w7)])) X2 hx rfl rfl rfl (pc0 := 113) (pc' := 116) (same := true) rfl (hb hby at_113) rfl (decide_eq_true rfl) (by decide) (by decide) ?_
      show SF p e below T2 (mkF m 116 #[iv p0s, iv 4, iv 98, rv w7, rv w7] []) _
      refine XS.aload X2.here hx rfl (hb hby at_116) rfl rfl ?_
      show SF p e below T2 (mkF m 118 #[iv p0s, iv 4, iv 98, rv w7, rv w7] [(.ref w7)]) _
      refine st3.trans ?_
      show SF p e below T3 (mkF m 121 #[iv p0s, iv 4, iv 98, rv w7, rv w7] [(.int 98)]) _
      refine XS.iloadN X3.here hx rfl (hb hby at_121) rfl ?_
      show SF p e below T3 (mkF m 122 #[iv p0s, iv 4, iv 98, rv w7, rv w7] [(.int 98), (.int 98)]) _
      refine XS.icmpNo X3.here hx rfl (hb hby at_122) rfl (teq (by decide : (98 : Int32) = (98 : Int32))).2 ?_
      show SF p e below T3 (mkF m 125 #[iv p0s, iv 4, iv 98, rv w7, rv w7] []) _
      refine XS.iconst X3.here hx rfl (hb hby at_125) ?_
      show SF p e below T3 (mkF m 126 #[iv p0s, iv 4, iv 98, rv w7, rv w7] [(.int 1)]) _
      refine XS.goto X3.here hx rfl (pc0 := 126) (pc' := 130) rfl (hb hby at_126) (by decide) (by decide) ?_
      show SF p e below T3 (mkF m 130 #[iv p0s, iv 4, iv 98, rv w7, rv w7] [(.int 1)]) _
      exact retN X3 hx (t := .boolean) hre (by simp) (hb hby at_130) hr
    · exact ⟨rfl, N3⟩
  · obtain ⟨T1, X1, e1, st1⟩ := getS2 X0 hx hZ hown (host := "") (Or.inl (tw hw 20 rfl)) Via.refl e0 (S9.ext O0.2) (g := (mkF m 90 #[iv p0s, iv 5, iv 112, .unset, .unset] [])) rfl (hb hby at_90)
    obtain ⟨_, _, ⟨T2, L2, k2x, n2⟩, -, X2, ⟨Lc2, hQ2, l2, y2, z2⟩, st2⟩ := Jvm.LawKit.callS X1 hx (y := (⟨"com/example/umask/umask/FileType", "fromLsLetter", "(C)Lcom/example/umask/umask/FileType;"⟩ : MethodName)) hown (mvT hZ (tw hw 4 rfl)) (mvT hZ (tw hw 5 rfl)) (mvT hZ (tw hw 2 rfl)) (mvT hZ (tw hw 6 rfl)) (by decide) (backOf (W := 0) (rm1_11 l Z a0 hw [] w2 kw2 w1 w4 w5 w3 w7 w6 w8 h0 n0 Z0 S2 O0 V_w2 F_w1_lsLetter F_w4_lsLetter F_w5_lsLetter F_w3_lsLetter F_w7_lsLetter F_w6_lsLetter) hZ (tw hw 6 rfl) (tw hw 2 rfl) (by decide) (by decide)) (g := (mkF m 105 #[iv p0s, iv 5, iv 112, rv w6, .unset] [(.int 112)])) rfl (by rw [hml]; rfl) (argsL := [(.int 112)]) (rest := []) (lenOf pd_0 rfl) rfl (by show 2 * 0 + _ ≤ _; exact Nat.le_of_eq rfl) (hb hby at_105) (fun _ _ => ⟨rfl, e1, (by decide : 0 + 0 ≤ _), (by decide : 0 + 0 ≤ _)⟩)
    dsimp only [Pt.U, Pt.locs, Pt.cells, Pt.slots] at X2 l2 y2 z2 st2 hQ2
    subst l2 y2 z2
    obtain ⟨rfl, N2q, e2⟩ := hQ2
    have N2 := Fr.app N0 N2q
    obtain ⟨cq3, kq3, q3a, q3b, q3c⟩ := isOf hZ e2 (E_w6.ext O0.2)
    obtain ⟨_, _, ⟨T3, L3, k3x, n3⟩, -, X3, ⟨Lc3, hQ3, l3, y3, z3⟩, st3⟩ := X2.virtualBack hx (y := (⟨"com/example/umask/umask/FileType", "lsLetter", "()C"⟩ : MethodName)) (z := (⟨"com/example/umask/umask/FileType", "lsLetter", "()C"⟩ : MethodName)) hown (mvT hZ (tw hw 11 rfl)) (mvT hZ (tw hw 12 rfl)) (notFace_of_selects (args := #[]) (mvT hZ (tw hw 14 rfl))) (mvT hZ (tw hw 14 rfl)) (mvT hZ (tw hw 13 rfl)) (by decide) (backOf (W := 0) (rm2_12 l Z a0 hw [] w6 h0 n0 Z0 F_w6_lsLetter O0) hZ (tw hw 15 rfl) (tw hw 2 rfl) (by decide) (by decide)) q3a q3c (g := (mkF m 118 #[iv p0s, iv 5, iv 112, rv w6, rv w6] [(.ref w6)])) rfl (by rw [hml]; rfl) (Steps.refl _) (argsL := []) (rest := []) (lenOf pd_1 rfl) rfl (by show 2 * 0 + _ ≤ _; exact Nat.le_of_eq rfl) (hb hby at_118) (fun _ _ => ⟨rfl, e2, (by decide : 0 + 0 ≤ _), (by decide : 0 + 0 ≤ _)⟩)
    dsimp only [Pt.U, Pt.locs, Pt.cells, Pt.slots] at X3 l3 y3 z3 st3 hQ3
    subst l3 y3 z3
    obtain ⟨rfl, N3q, e3⟩ := hQ3
    have N3 := Fr.app N2 N3q
    obtain ⟨fs, hr, hrun, hended, hW, hsame⟩ := X3.leave (v := some (.int (1 : Int32))) (fun h => by rw [hre] at h; cases h)
    refine ⟨_, _, pre0 _ (pre1 _ (?_)), hrun, hended, _, _, rfl, ?_, ⟨_, rfl⟩, hW, hsame.mono (by decide) (by decide)⟩
    · show SF p e below s₁ (mkF m 7 #[iv p0s, .unset, .unset, .unset, .unset] [(.int ((p0s &&& (2147483647 : Int32)) % (7 : Int32)))]) _
      rw [hc1]
      show SF p e below s₁ (mkF m 7 #[iv p0s, .unset, .unset, .unset, .unset] [(.int 5)]) _
      refine XS.istoreN X0.here hx rfl (hb hby at_7) rfl (l' := #[iv p0s, iv 5, .unset, .unset, .unset]) rfl ?_
      show SF p e below s₁ (mkF m 8 #[iv p0s, iv 5, .unset, .unset, .unset] []) _
      refine XS.iloadN X0.here hx rfl (hb hby at_8) rfl ?_
      show SF p e below s₁ (mkF m 9 #[iv p0s, iv 5, .unset, .unset, .unset] [(.int 5)]) _
      refine XS.ifYes X0.here hx rfl (pc0 := 9) (pc' := 22) rfl (hb hby at_9) rfl ((if0 _ _).trans (feq (by decide : ¬ ((5 : Int32) = (0 : Int32)))).2) (by decide) (by decide) ?_
      show SF p e below s₁ (mkF m 22 #[iv p0s, iv 5, .unset, .unset, .unset] []) _
      refine XS.iloadN X0.here hx rfl (hb hby at_22) rfl ?_
      show SF p e below s₁ (mkF m 23 #[iv p0s, iv 5, .unset, .unset, .unset] [(.int 5)]) _
      refine XS.iconst X0.here hx rfl (hb hby at_23) ?_
      show SF p e below s₁ (mkF m 24 #[iv p0s, iv 5, .unset, .unset, .unset] [(.int 1), (.int 5)]) _
      refine XS.icmpYes X0.here hx rfl (pc0 := 24) (pc' := 37) rfl (hb hby at_24) rfl (feq (by decide : ¬ ((5 : Int32) = (1 : Int32)))).2 (by decide) (by decide) ?_
      show SF p e below s₁ (mkF m 37 #[iv p0s, iv 5, .unset, .unset, .unset] []) _
      refine XS.iloadN X0.here hx rfl (hb hby at_37) rfl ?_
      show SF p e below s₁ (mkF m 38 #[iv p0s, iv 5, .unset, .unset, .unset] [(.int 5)]) _
      refine XS.iconst X0.here hx rfl (hb hby at_38) ?_
      show SF p e below s₁ (mkF m 39 #[iv p0s, iv 5, .unset, .unset, .unset] [(.int 2), (.int 5)]) _
      refine XS.icmpYes X0.here hx rfl (pc0 := 39) (pc' := 52) rfl (hb hby at_39) rfl (feq (by decide : ¬ ((5 : Int32) = (2 : Int32)))).2 (by decide) (by decide) ?_
      show SF p e below s₁ (mkF m 52 #[iv p0s, iv 5, .unset, .unset, .unset] []) _
      refine XS.iloadN X0.here hx rfl (hb hby at_52) rfl ?_
      show SF p e below s₁ (mkF m 53 #[iv p0s, iv 5, .unset, .unset, .unset] [(.int 5)]) _
      refine XS.iconst X0.here hx rfl (hb hby at_53) ?_
      show SF p e below s₁ (mkF m 54 #[iv p0s, iv 5, .unset, .unset, .unset] [(.int 3), (.int 5)]) _
      refine XS.icmpYes X0.here hx rfl (pc0 := 54) (pc' := 67) rfl (hb hby at_54) rfl (feq (by decide : ¬ ((5 : Int32) = (3 : Int32)))).2 (by decide) (by decide) ?_
      show SF p e below s₁ (mkF m 67 #[iv p0s, iv 5, .unset, .unset, .unset] []) _
      refine XS.iloadN X0.here hx rfl (hb hby at_67) rfl ?_
      show SF p e below s₁ (mkF m 68 #[iv p0s, iv 5, .unset, .unset, .unset] [(.int 5)]) _
      refine XS.iconst X0.here hx rfl (hb hby at_68) ?_
      show SF p e below s₁ (mkF m 69 #[iv p0s, iv 5, .unset, .unset, .unset] [(.int 4), (.int 5)]) _
      refine XS.icmpYes X0.here hx rfl (pc0 := 69) (pc' := 82) rfl (hb hby at_69) rfl (feq (by decide : ¬ ((5 : Int32) = (4 : Int32)))).2 (by decide) (by decide) ?_
      show SF p e below s₁ (mkF m 82 #[iv p0s, iv 5, .unset, .unset, .unset] []) _
      refine XS.iloadN X0.here hx rfl (hb hby at_82) rfl ?_
      show SF p e below s₁ (mkF m 83 #[iv p0s, iv 5, .unset, .unset, .unset] [(.int 5)]) _
      refine XS.iconst X0.here hx rfl (hb hby at_83) ?_
      show SF p e below s₁ (mkF m 84 #[iv p0s, iv 5, .unset, .unset, .unset] [(.int 5), (.int 5)]) _
      refine XS.icmpNo X0.here hx rfl (hb hby at_84) rfl (teq (by decide : (5 : Int32) = (5 : Int32))).2 ?_
      show SF p e below s₁ (mkF m 87 #[iv p0s, iv 5, .unset, .unset, .unset] []) _
      refine XS.bipush X0.here hx rfl (hb hby at_87) ?_
      show SF p e below s₁ (mkF m 89 #[iv p0s, iv 5, .unset, .unset, .unset] [(.int 112)]) _
      refine XS.istoreN X0.here hx rfl (hb hby at_89) rfl (l' := #[iv p0s, iv 5, iv 112, .unset, .unset]) rfl ?_
      show SF p e below s₁ (mkF m 90 #[iv p0s, iv 5, iv 112, .unset, .unset] []) _
      refine st1 _ ?_
      show SF p e below T1 (mkF m 93 #[iv p0s, iv 5, iv 112, .unset, .unset] [(.ref w6)]) _
      refine XS.astoreN X1.here hx rfl (hb hby at_93) rfl rfl (l' := #[iv p0s, iv 5, iv 112, rv w6, .unset]) rfl ?_
      show SF p e below T1 (mkF m 94 #[iv p0s, iv 5, iv 112, rv w6, .unset] []) _
      refine XS.goto X1.here hx rfl (pc0 := 94) (pc' := 104) rfl (hb hby at_94) (by decide) (by decide) ?_
      show SF p e below T1 (mkF m 104 #[iv p0s, iv 5, iv 112, rv w6, .unset] []) _
      refine XS.iloadN X1.here hx rfl (hb hby at_104) rfl ?_
      show SF p e below T1 (mkF m 105 #[iv p0s, iv 5, iv 112, rv w6, .unset] [(.int 112)]) _
      refine st2 _ ?_
      show SF p e below T2 (mkF m 108 #[iv p0s, iv 5, iv 112, rv w6, .unset] [(.ref w6)]) _
      refine XS.astore X2.here hx rfl (hb hby at_108) rfl rfl (l' := #[iv p0s, iv 5, iv 112, rv w6, rv w6]) rfl ?_
      show SF p e below T2 (mkF m 110 #[iv p0s, iv 5, iv 112, rv w6, rv w6] []) _
      refine XS.aload X2.here hx rfl (hb hby at_110) rfl rfl ?_
      show SF p e below T2 (mkF m 112 #[iv p0s, iv 5, iv 112, rv w6, rv w6] [(.ref w6)]) _
      refine XS.aloadN X2.here hx rfl (hb hby at_112) rfl rfl ?_
      show SF p e below T2 (mkF m 113 #[iv p0s, iv 5, iv 112, rv w6, rv w6] [(.ref w6), (.ref w6)]) _
      refine Jvm.RoadKit.acmp (g := (mkF m 113 #[iv p0s, iv 5, iv 112, rv w6, rv w6] [(.ref w6), (.ref w6)])) X2 hx rfl rfl rfl (pc0 := 113) (pc' := 116) (same := true) rfl (hb hby at_113) rfl (decide_eq_true rfl) (by decide) (by decide) ?_
      show SF p e below T2 (mkF m 116 #[iv p0s, iv 5, iv 112, rv w6, rv w6] []) _
      refine XS.aload X2.here hx rfl (hb hby at_116) rfl rfl ?_
      show SF p e below T2 (mkF m 118 #[iv p0s, iv 5, iv 112, rv w6, rv w6] [(.ref w6)]) _
      refine st3.trans ?_
      show SF p e below T3 (mkF m 121 #[iv p0s, iv 5, iv 112, rv w6, rv w6] [(.int 112)]) _
      refine XS.iloadN X3.here hx rfl (hb hby at_121) rfl ?_
      show SF p e below T3 (mkF m 122 #[iv p0s, iv 5, iv 112, rv w6, rv w6] [(.int 112), (.int 112)]) _
      refine XS.icmpNo X3.here hx rfl (hb hby at_122) rfl (teq (by decide : (112 : Int32) = (112 : Int32))).2 ?_
      show SF p e below T3 (mkF m 125 #[iv p0s, iv 5, iv 112, rv w6, rv w6] []) _
      refine XS.iconst X3.here hx rfl (hb hby at_125) ?_
      show SF p e below T3 (mkF m 126 #[iv p0s, iv 5, iv 112, rv w6, rv w6] [(.int 1)]) _
      refine XS.goto X3.here hx rfl (pc0 := 126) (pc' := 130) rfl (hb hby at_126) (by decide) (by decide) ?_
      show SF p e below T3 (mkF m 130 #[iv p0s, iv 5, iv 112, rv w6, rv w6] [(.int 1)]) _
      exact retN X3 hx (t := .boolean) hre (by simp) (hb hby at_130) hr
    · exact ⟨rfl, N3⟩
  · obtain ⟨T1, X1, e1, st1⟩ := getS2 X0 hx hZ hown (host := "") (Or.inl (tw hw 23 rfl)) Via.refl e0 (S13.ext O0.2) (g := (mkF m 100 #[iv p0s, iv 6, iv 115, .unset, .unset] [])) rfl (hb hby at_100)
    obtain ⟨_, _, ⟨T2, L2, k2x, n2⟩, -, X2, ⟨Lc2, hQ2, l2, y2, z2⟩, st2⟩ := Jvm.LawKit.callS X1 hx (y := (⟨"com/example/umask/umask/FileType", "fromLsLetter", "(C)Lcom/example/umask/umask/FileType;"⟩ : MethodName)) hown (mvT hZ (tw hw 4 rfl)) (mvT hZ (tw hw 5 rfl)) (mvT hZ (tw hw 2 rfl)) (mvT hZ (tw hw 6 rfl)) (by decide) (backOf (W := 0) (rm1_13 l Z a0 hw [] w2 kw2 w1 w4 w5 w3 w7 w6 w8 h0 n0 Z0 S2 O0 V_w2 F_w1_lsLetter F_w4_lsLetter F_w5_lsLetter F_w3_lsLetter F_w7_lsLetter F_w6_lsLetter F_w8_lsLetter) hZ (tw hw 6 rfl) (tw hw 2 rfl) (by decide) (by decide)) (g := (mkF m 105 #[iv p0s, iv 6, iv 115, rv w8, .unset] [(.int 115)])) rfl (by rw [hml]; rfl) (argsL := [(.int 115)]) (rest := []) (lenOf pd_0 rfl) rfl (by show 2 * 0 + _ ≤ _; exact Nat.le_of_eq rfl) (hb hby at_105) (fun _ _ => ⟨rfl, e1, (by decide : 0 + 0 ≤ _), (by decide : 0 + 0 ≤ _)⟩)
    dsimp only [Pt.U, Pt.locs, Pt.cells, Pt.slots] at X2 l2 y2 z2 st2 hQ2
    subst l2 y2 z2
    obtain ⟨rfl, N2q, e2⟩ := hQ2
    have N2 := Fr.app N0 N2q
    obtain ⟨cq3, kq3, q3a, q3b, q3c⟩ := isOf hZ e2 (E_w8.ext O0.2)
    obtain ⟨_, _, ⟨T3, L3, k3x, n3⟩, -, X3, ⟨Lc3, hQ3, l3, y3, z3⟩, st3⟩ := X2.virtualBack hx (y := (⟨"com/example/umask/umask/FileType", "lsLetter", "()C"⟩ : MethodName)) (z := (⟨"com/example/umask/umask/FileType", "lsLetter", "()C"⟩ : MethodName)) hown (mvT hZ (tw hw 11 rfl)) (mvT hZ (tw hw 12 rfl)) (notFace_of_selects (args := #[]) (mvT hZ (tw hw 14 rfl))) (mvT hZ (tw hw 14 rfl)) (mvT hZ (tw hw 13 rfl)) (by decide) (backOf (W := 0) (rm2_14 l Z a0 hw [] w8 h0 n0 Z0 F_w8_lsLetter O0) hZ (tw hw 15 rfl) (tw hw 2 rfl) (by decide) (by decide)) q3a q3c (g := (mkF m 118 #[iv p0s, iv 6, iv 115, rv w8, rv w8] [(.ref w8)])) rfl (by rw [hml]; rfl) (Steps.refl _) (argsL := []) (rest := []) (lenOf pd_1 rfl) rfl (by show 2 * 0 + _ ≤ _; exact Nat.le_of_eq rfl) (hb hby at_118) (fun _ _ => ⟨rfl, e2, (by decide : 0 + 0 ≤ _), (by decide : 0 + 0 ≤ _)⟩)
    dsimp only [Pt.U, Pt.locs, Pt.cells, Pt.slots] at X3 l3 y3 z3 st3 hQ3
    subst l3 y3 z3
    obtain ⟨rfl, N3q, e3⟩ := hQ3
    have N3 := Fr.app N2 N3q
    obtain ⟨fs, hr, hrun, hended, hW, hsame⟩ := X3.leave (v := some (.int (1 : Int32))) (fun h => by rw [hre] at h; cases h)
    refine ⟨_, _, pre0 _ (pre1 _ (?_)), hrun, hended, _, _, rfl, ?_, ⟨_, rfl⟩, hW, hsame.mono (by decide) (by decide)⟩
    · show SF p e below s₁ (mkF m 7 #[iv p0s, .unset, .unset, .unset, .unset] [(.int ((p0s &&& (2147483647 : Int32)) % (7 : Int32)))]) _
      rw [hc1]
      show SF p e below s₁ (mkF m 7 #[iv p0s, .unset, .unset, .unset, .unset] [(.int 6)]) _
      refine XS.istoreN X0.here hx rfl (hb hby at_7) rfl (l' := #[iv p0s, iv 6, .unset, .unset, .unset]) rfl ?_
      show SF p e below s₁ (mkF m 8 #[iv p0s, iv 6, .unset, .unset, .unset] []) _
      refine XS.iloadN X0.here hx rfl (hb hby at_8) rfl ?_
      show SF p e below s₁ (mkF m 9 #[iv p0s, iv 6, .unset, .unset, .unset] [(.int 6)]) _
      refine XS.ifYes X0.here hx rfl (pc0 := 9) (pc' := 22) rfl (hb hby at_9) rfl ((if0 _ _).trans (feq (by decide : ¬ ((6 : Int32) = (0 : Int32)))).2) (by decide) (by decide) ?_
      show SF p e below s₁ (mkF m 22 #[iv p0s, iv 6, .unset, .unset, .unset] []) _
      refine XS.iloadN X0.here hx rfl (hb hby at_22) rfl ?_
      show SF p e below s₁ (mkF m 23 #[iv p0s, iv 6, .unset, .unset, .unset] [(.int 6)]) _
      refine XS.iconst X0.here hx rfl (hb hby at_23) ?_
      show SF p e below s₁ (mkF m 24 #[iv p0s, iv 6, .unset, .unset, .unset] [(.int 1), (.int 6)]) _
      refine XS.icmpYes X0.here hx rfl (pc0 := 24) (pc' := 37) rfl (hb hby at_24) rfl (feq (by decide : ¬ ((6 : Int32) = (1 : Int32)))).2 (by decide) (by decide) ?_
      show SF p e below s₁ (mkF m 37 #[iv p0s, iv 6, .unset, .unset, .unset] []) _
      refine XS.iloadN X0.here hx rfl (hb hby at_37) rfl ?_
      show SF p e below s₁ (mkF m 38 #[iv p0s, iv 6, .unset, .unset, .unset] [(.int 6)]) _
      refine XS.iconst X0.here hx rfl (hb hby at_38) ?_
      show SF p e below s₁ (mkF m 39 #[iv p0s, iv 6, .unset, .unset, .unset] [(.int 2), (.int 6)]) _
      refine XS.icmpYes X0.here hx rfl (pc0 := 39) (pc' := 52) rfl (hb hby at_39) rfl (feq (by decide : ¬ ((6 : Int32) = (2 : Int32)))).2 (by decide) (by decide) ?_
      show SF p e below s₁ (mkF m 52 #[iv p0s, iv 6, .unset, .unset, .unset] []) _
      refine XS.iloadN X0.here hx rfl (hb hby at_52) rfl ?_
      show SF p e below s₁ (mkF m 53 #[iv p0s, iv 6, .unset, .unset, .unset] [(.int 6)]) _
      refine XS.iconst X0.here hx rfl (hb hby at_53) ?_
      show SF p e below s₁ (mkF m 54 #[iv p0s, iv 6, .unset, .unset, .unset] [(.int 3), (.int 6)]) _
      refine XS.icmpYes X0.here hx rfl (pc0 := 54) (pc' := 67) rfl (hb hby at_54) rfl (feq (by decide : ¬ ((6 : Int32) = (3 : Int32)))).2 (by decide) (by decide) ?_
      show SF p e below s₁ (mkF m 67 #[iv p0s, iv 6, .unset, .unset, .unset] []) _
      refine XS.iloadN X0.here hx rfl (hb hby at_67) rfl ?_
      show SF p e below s₁ (mkF m 68 #[iv p0s, iv 6, .unset, .unset, .unset] [(.int 6)]) _
      refine XS.iconst X0.here hx rfl (hb hby at_68) ?_
      show SF p e below s₁ (mkF m 69 #[iv p0s, iv 6, .unset, .unset, .unset] [(.int 4), (.int 6)]) _
      refine XS.icmpYes X0.here hx rfl (pc0 := 69) (pc' := 82) rfl (hb hby at_69) rfl (feq (by decide : ¬ ((6 : Int32) = (4 : Int32)))).2 (by decide) (by decide) ?_
      show SF p e below s₁ (mkF m 82 #[iv p0s, iv 6, .unset, .unset, .unset] []) _
      refine XS.iloadN X0.here hx rfl (hb hby at_82) rfl ?_
      show SF p e below s₁ (mkF m 83 #[iv p0s, iv 6, .unset, .unset, .unset] [(.int 6)]) _
      refine XS.iconst X0.here hx rfl (hb hby at_83) ?_
      show SF p e below s₁ (mkF m 84 #[iv p0s, iv 6, .unset, .unset, .unset] [(.int 5), (.int 6)]) _
      refine XS.icmpYes X0.here hx rfl (pc0 := 84) (pc' := 97) rfl (hb hby at_84) rfl (feq (by decide : ¬ ((6 : Int32) = (5 : Int32)))).2 (by decide) (by decide) ?_
      show SF p e below s₁ (mkF m 97 #[iv p0s, iv 6, .unset, .unset, .unset] []) _
      refine XS.bipush X0.here hx rfl (hb hby at_97) ?_
      show SF p e below s₁ (mkF m 99 #[iv p0s, iv 6, .unset, .unset, .unset] [(.int 115)]) _
      refine XS.istoreN X0.here hx rfl (hb hby at_99) rfl (l' := #[iv p0s, iv 6, iv 115, .unset, .unset]) rfl ?_
      show SF p e below s₁ (mkF m 100 #[iv p0s, iv 6, iv 115, .unset, .unset] []) _
      refine st1 _ ?_
      show SF p e below T1 (mkF m 103 #[iv p0s, iv 6, iv 115, .unset, .unset] [(.ref w8)]) _
      refine XS.astoreN X1.here hx rfl (hb hby at_103) rfl rfl (l' := #[iv p0s, iv 6, iv 115, rv w8, .unset]) rfl ?_
      show SF p e below T1 (mkF m 104 #[iv p0s, iv 6, iv 115, rv w8, .unset] []) _
      refine XS.iloadN X1.here hx rfl (hb hby at_104) rfl ?_
      show SF p e below T1 (mkF m 105 #[iv p0s, iv 6, iv 115, rv w8, .unset] [(.int 115)]) _
      refine st2 _ ?_
      show SF p e below T2 (mkF m 108 #[iv p0s, iv 6, iv 115, rv w8, .unset] [(.ref w8)]) _
      refine XS.astore X2.here hx rfl (hb hby at_108) rfl rfl (l' := #[iv p0s, iv 6, iv 115, rv w8, rv w8]) rfl ?_
      show SF p e below T2 (mkF m 110 #[iv p0s, iv 6, iv 115, rv w8, rv w8] []) _
      refine XS.aload X2.here hx rfl (hb hby at_110) rfl rfl ?_
      show SF p e below T2 (mkF m 112 #[iv p0s, iv 6, iv 115, rv w8, rv w8] [(.ref w8)]) _
      refine XS.aloadN X2.here hx rfl (hb hby at_112) rfl rfl ?_
      show SF p e below T2 (mkF m 113 #[iv p0s, iv 6, iv 115, rv w8, rv w8] [(.ref w8), (.ref w8)]) _
      refine Jvm.RoadKit.acmp (g := (mkF m 113 #[iv p0s, iv 6, iv 115, rv w8, rv w8] [(.ref w8), (.ref w8)])) X2 hx rfl rfl rfl (pc0 := 113) (pc' := 116) (same := true) rfl (hb hby at_113) rfl (decide_eq_true rfl) (by decide) (by decide) ?_
      show SF p e below T2 (mkF m 116 #[iv p0s, iv 6, iv 115, rv w8, rv w8] []) _
      refine XS.aload X2.here hx rfl (hb hby at_116) rfl rfl ?_
      show SF p e below T2 (mkF m 118 #[iv p0s, iv 6, iv 115, rv w8, rv w8] [(.ref w8)]) _
      refine st3.trans ?_
      show SF p e below T3 (mkF m 121 #[iv p0s, iv 6, iv 115, rv w8, rv w8] [(.int 115)]) _
      refine XS.iloadN X3.here hx rfl (hb hby at_121) rfl ?_
      show SF p e below T3 (mkF m 122 #[iv p0s, iv 6, iv 115, rv w8, rv w8] [(.int 115), (.int 115)]) _
      refine XS.icmpNo X3.here hx rfl (hb hby at_122) rfl (teq (by decide : (115 : Int32) = (115 : Int32))).2 ?_
      show SF p e below T3 (mkF m 125 #[iv p0s, iv 6, iv 115, rv w8, rv w8] []) _
      refine XS.iconst X3.here hx rfl (hb hby at_125) ?_
      show SF p e below T3 (mkF m 126 #[iv p0s, iv 6, iv 115, rv w8, rv w8] [(.int 1)]) _
      refine XS.goto X3.here hx rfl (pc0 := 126) (pc' := 130) rfl (hb hby at_126) (by decide) (by decide) ?_
      show SF p e below T3 (mkF m 130 #[iv p0s, iv 6, iv 115, rv w8, rv w8] [(.int 1)]) _
      exact retN X3 hx (t := .boolean) hre (by simp) (hb hby at_130) hr
    · exact ⟨rfl, N3⟩
set_option maxRecDepth 65536 in
set_option maxHeartbeats 40000000 in
theorem comes_1 {Post : Tables → Env → Array Value → State → Outcome → State → Prop} (hpost : ∀ tb e args s v u, (limb_1_1.after args s (.returned v) u = true ∧ limb_1_2.after args s (.returned v) u = true ∧ True) → FrameEnd s (.returned v) u (Jvm.fieldLocs frame_1_writes args s ++ Jvm.arrayLocs frame_1_arrays args s ++ Jvm.staticLocs frame_1_statics s) 0 0 → Post tb e args s (.returned v) u) :
    ArmFor flags0 classFile x code maxLocals ret World_1 tables_1 room_1 Calls_1 rest_1 Pre_1 Post := by
  intro l hfl _ _ p e ha hc hk s m args below hf hA hF happ hP
  obtain ⟨hcalls, hrest, hpre⟩ := hP
  obtain ⟨-, -, -, hnamed, -, -, -, hat⟩ := (Spec.applies_iff hf).mp happ
  obtain ⟨hg, hn⟩ := and_e (Cond.before_iff.mp (show (Jvm.Cond.and given_1 narrow_1).before args s = true from hpre))
  obtain ⟨gv0, gr0⟩ := and_e hg
  have gv1 := gr0
  obtain ⟨av0, rfl⟩ : ∃ av0 : Value, args = #[av0] := by
    have hs : args.size = 1 := by simpa [Cond.value, given_1] using gv0
    obtain ⟨L⟩ := args
    match L, hs with
    | [av0], _ => exact ⟨av0, rfl⟩
  have hw := fun d (hd : d ∈ tables_1) => atoms_spec (ws := Jvm.Cond.code x code maxLocals ret :: tables_1) hat d (List.mem_cons_of_mem _ hd)
  have hfit : Fit s := fun {y c} hc i hi => by
    obtain ⟨ha, rfl⟩ := Array.getElem?_eq_some_iff.mp hc
    have q := List.all_eq_true.mp ((Array.all_eq_true_iff_forall_mem.mp hF) _ (Array.getElem_mem ha)) i (List.mem_range.mpr hi)
    simpa [Array.getElem?_eq_getElem hi] using q
  obtain ⟨p0s, ei0⟩ := is_v gv1
  obtain rfl : av0 = (.int p0s) := Option.some.inj ei0
  obtain ⟨nv0, nr0⟩ := and_e hn
  obtain ⟨nv1, nr1⟩ := and_e nr0
  obtain ⟨nv2, nr2⟩ := and_e nr1
  obtain ⟨nv3, nr3⟩ := and_e nr2
  obtain ⟨nv4, nr4⟩ := and_e nr3
  obtain ⟨nv5, nr5⟩ := and_e nr4
  obtain ⟨nv6, nr6⟩ := and_e nr5
  obtain ⟨nv7, nr7⟩ := and_e nr6
  obtain ⟨nv8, nr8⟩ := and_e nr7
  obtain ⟨nv9, nr9⟩ := and_e nr8
  obtain ⟨nv10, nr10⟩ := and_e nr9
  obtain ⟨nv11, nr11⟩ := and_e nr10
  obtain ⟨nv12, nr12⟩ := and_e nr11
  obtain ⟨nv13, nr13⟩ := and_e nr12
  obtain ⟨nv14, nr14⟩ := and_e nr13
  obtain ⟨nv15, nr15⟩ := and_e nr14
  obtain ⟨nv16, nr16⟩ := and_e nr15
  obtain ⟨nv17, nr17⟩ := and_e nr16
  obtain ⟨nv18, nr18⟩ := and_e nr17
  obtain ⟨nv19, nr19⟩ := and_e nr18
  obtain ⟨nv20, nr20⟩ := and_e nr19
  obtain ⟨nv21, nr21⟩ := and_e nr20
  obtain ⟨w1, ev_w1⟩ := exa_v nv0
  have S0 : Sta s s.heap "com/example/umask/umask/FileType" "REGULAR" "Lcom/example/umask/umask/FileType;" (.ref w1) := Sta.start ev_w1 (Or.inr ⟨(tw hw 2 rfl), (tw hw 3 rfl)⟩)
  have E_w1 : Exa s s.heap w1 "com/example/umask/umask/FileType" := Exa.start ev_w1 nv0
  obtain ⟨w2, ev_w2⟩ := arr_v nv1
  have S2 : Sta s s.heap "com/example/umask/umask/FileType" "TYPES" "[Lcom/example/umask/umask/FileType;" (.ref w2) := Sta.start ev_w2 (Or.inr ⟨(tw hw 2 rfl), (tw hw 8 rfl)⟩)
  obtain ⟨cl_w2, Ar_w2⟩ := Arr.start ev_w2 nv1
  obtain ⟨w3, ev_w3⟩ := exa_v nv5
  have S3 : Sta s s.heap "com/example/umask/umask/FileType" "CHARACTER_DEVICE" "Lcom/example/umask/umask/FileType;" (.ref w3) := Sta.start ev_w3 (Or.inr ⟨(tw hw 2 rfl), (tw hw 17 rfl)⟩)
  have E_w3 : Exa s s.heap w3 "com/example/umask/umask/FileType" := Exa.start ev_w3 nv5
  obtain ⟨w4, ev_w4⟩ := exa_v nv6
  have S5 : Sta s s.heap "com/example/umask/umask/FileType" "DIRECTORY" "Lcom/example/umask/umask/FileType;" (.ref w4) := Sta.start ev_w4 (Or.inr ⟨(tw hw 2 rfl), (tw hw 18 rfl)⟩)
  have E_w4 : Exa s s.heap w4 "com/example/umask/umask/FileType" := Exa.start ev_w4 nv6
  obtain ⟨w5, ev_w5⟩ := exa_v nv9
  have S7 : Sta s s.heap "com/example/umask/umask/FileType" "SYMBOLIC_LINK" "Lcom/example/umask/umask/FileType;" (.ref w5) := Sta.start ev_w5 (Or.inr ⟨(tw hw 2 rfl), (tw hw 19 rfl)⟩)
  have E_w5 : Exa s s.heap w5 "com/example/umask/umask/FileType" := Exa.start ev_w5 nv9
  obtain ⟨w6, ev_w6⟩ := exa_v nv14
  have S9 : Sta s s.heap "com/example/umask/umask/FileType" "FIFO" "Lcom/example/umask/umask/FileType;" (.ref w6) := Sta.start ev_w6 (Or.inr ⟨(tw hw 2 rfl), (tw hw 21 rfl)⟩)
  have E_w6 : Exa s s.heap w6 "com/example/umask/umask/FileType" := Exa.start ev_w6 nv14
  obtain ⟨w7, ev_w7⟩ := exa_v nv15
  have S11 : Sta s s.heap "com/example/umask/umask/FileType" "BLOCK_DEVICE" "Lcom/example/umask/umask/FileType;" (.ref w7) := Sta.start ev_w7 (Or.inr ⟨(tw hw 2 rfl), (tw hw 22 rfl)⟩)
  have E_w7 : Exa s s.heap w7 "com/example/umask/umask/FileType" := Exa.start ev_w7 nv15
  obtain ⟨w8, ev_w8⟩ := exa_v nv20
  have S13 : Sta s s.heap "com/example/umask/umask/FileType" "SOCKET" "Lcom/example/umask/umask/FileType;" (.ref w8) := Sta.start ev_w8 (Or.inr ⟨(tw hw 2 rfl), (tw hw 24 rfl)⟩)
  have E_w8 : Exa s s.heap w8 "com/example/umask/umask/FileType" := Exa.start ev_w8 nv20
  have F_w1_lsLetter : Fld s s.heap w1 "com/example/umask/umask/FileType" "lsLetter" "C" (.int 45) := Fld.start ((fld_at ev_w1).symm.trans (own_eqv nv4 (Term.int_eval (45))))
  have F_w4_lsLetter : Fld s s.heap w4 "com/example/umask/umask/FileType" "lsLetter" "C" (.int 100) := Fld.start ((fld_at ev_w4).symm.trans (own_eqv nv8 (Term.int_eval (100))))
  have F_w5_lsLetter : Fld s s.heap w5 "com/example/umask/umask/FileType" "lsLetter" "C" (.int 108) := Fld.start ((fld_at ev_w5).symm.trans (own_eqv nv11 (Term.int_eval (108))))
  have F_w3_lsLetter : Fld s s.heap w3 "com/example/umask/umask/FileType" "lsLetter" "C" (.int 99) := Fld.start ((fld_at ev_w3).symm.trans (own_eqv nv13 (Term.int_eval (99))))
  have F_w7_lsLetter : Fld s s.heap w7 "com/example/umask/umask/FileType" "lsLetter" "C" (.int 98) := Fld.start ((fld_at ev_w7).symm.trans (own_eqv nv17 (Term.int_eval (98))))
  have F_w6_lsLetter : Fld s s.heap w6 "com/example/umask/umask/FileType" "lsLetter" "C" (.int 112) := Fld.start ((fld_at ev_w6).symm.trans (own_eqv nv19 (Term.int_eval (112))))
  have F_w8_lsLetter : Fld s s.heap w8 "com/example/umask/umask/FileType" "lsLetter" "C" (.int 115) := Fld.start ((fld_at ev_w8).symm.trans (own_eqv nr21 (Term.int_eval (115))))
  obtain ⟨ql_w2, qe_w2⟩ := own_len ev_w2 Ar_w2 (own_eqv nv2 (Term.int_eval (7)))
  obtain ⟨kw2, ek_w2⟩ : ∃ z, z = cl_w2.cls := ⟨_, rfl⟩
  have V_w2 : Arv s s.heap w2 kw2 (.object "com/example/umask/umask/FileType") (7 : Int32) [(.ref w1), (.ref w4), (.ref w5), (.ref w3), (.ref w7), (.ref w6), (.ref w8)] .null := ek_w2 ▸ Arv.start hfit Ar_w2 ql_w2 qe_w2 (by decide) rfl ⟨(elem_in (own_eqv nv3 ev_w1) ev_w2 (Term.int_eval (0)) Ar_w2.1).2, (elem_in (own_eqv nv7 ev_w4) ev_w2 (Term.int_eval (1)) Ar_w2.1).2, (elem_in (own_eqv nv10 ev_w5) ev_w2 (Term.int_eval (2)) Ar_w2.1).2, (elem_in (own_eqv nv12 ev_w3) ev_w2 (Term.int_eval (3)) Ar_w2.1).2, (elem_in (own_eqv nv16 ev_w7) ev_w2 (Term.int_eval (4)) Ar_w2.1).2, (elem_in (own_eqv nv18 ev_w6) ev_w2 (Term.int_eval (5)) Ar_w2.1).2, (elem_in (own_eqv nv21 ev_w8) ev_w2 (Term.int_eval (6)) Ar_w2.1).2, trivial⟩
  have O0 := Old.start s
  obtain ⟨n, o, h1, h2, h3, _, L, rfl, ⟨rfl, N⟩, hq⟩ := rm0 l s _ hw tables_1 p0s w1 w2 w3 w4 w5 w6 w7 w8 kw2 s.heap s.heap.size (Nat.le_refl _) O0 S0 E_w1 S2 S3 E_w3 S5 E_w4 S7 E_w5 S9 E_w6 S11 E_w7 S13 E_w8 F_w1_lsLetter F_w4_lsLetter F_w5_lsLetter F_w3_lsLetter F_w7_lsLetter F_w6_lsLetter F_w8_lsLetter V_w2 p e ha hc hk s m _ below hf ((Spec.applies_iff_loose hf).mp happ).1 ⟨rfl, State.Warmed39.refl s, rfl⟩ trivial
  refine ⟨n, _, h1, h2, h3, hpost _ _ _ _ _ _ ⟨Cond.after_iff.mpr rfl, Cond.after_iff.mpr (eq_i res_at (Term.int_eval (1)) rfl), trivial⟩ ⟨hq.1, hq.2.1, (hq.2.2.sift fun y hy => Or.inr (N y hy)).mono (by decide) (by decide)⟩⟩
theorem main_1_1 : Claimed_1_1 := comes_1 fun _ _ _ _ _ _ h hF => ⟨h.1, hF⟩
theorem main_1_2 : Claimed_1_2 := comes_1 fun _ _ _ _ _ _ h hF => ⟨h.2.1, hF⟩
end Jvm.Pilot.@@N@@
namespace Jvm.Pilot.@@N@@
open Jvm Jvm.ClassFile Sem Op Lib Jvm.Free Jvm.Stand Jvm.Pilot.@@N@@.Jvm.D
/-! MADE BY PROGRAM (witnessworld.py) out of the Statement's table words and the real class files: 13 classes; the members and pool entries that the words name. The judged class is class 1, her method 1. -/
namespace start1
open Jvm.ClassFile
def u (s : String) : CpInfo := .utf8 (stringToUtf16 s)
/-- a pool by its gaps: so many unusable entries, then the entry; so many at the end -/
def gap : Nat → List CpInfo → List CpInfo
  | 0, r => r
  | n + 1, r => .unusable :: gap n r
def poolList (es : List (Nat × CpInfo)) (last : Nat) : List CpInfo := es.foldr (fun e r => gap e.1 (e.2 :: r)) (gap last [])
def pool (es : List (Nat × CpInfo)) (last : Nat) : Array CpInfo := ⟨poolList es last⟩
def fileOf (pool : Array CpInfo) (this : Nat) (attrs : Array Attribute := #[]) (ms : Array MethodInfo := #[]) (fl : Nat := 33) (sup : Nat := 0) (ifs : Array Nat := #[]) (fds : Array FieldInfo := #[]) : ClassFile where
  minorVersion := 0
  majorVersion := 65
  constantPool := pool
  accessFlags := fl
  thisClass := this
  superClass := sup
  interfaces := ifs
  fields := fds
  methods := ms
  attributes := attrs
def plain (name : String) (sup : Option ClassId) : Class where
  name := name
  kind := .ordinary
  loader := none
  accessFlags := 33
  super := sup
  interfaces := #[]
  cf := none
  fields := #[]
  methods := #[]
  instanceTypes := #[]
  staticTypes := #[]
  resolved := #[]
  callSites := []
  init := .initialized
  statics := none
  mirror := none

def pool0 : Array CpInfo := pool [(5, u "<init>"), (0, u "()V"), (1, .class_ 10), (1, u "java/lang/Object")] 113

def k0m0 : Method := { name := "<init>", desc := "()V", sig := { parameters := [], returnType := none }, accessFlags := 1, code := none }
/-- java/lang/Object -/
def k0 : Class := { plain "java/lang/Object" none with
  accessFlags := 33
  interfaces := #[]
  cf := some (fileOf pool0 8 #[] #[{ accessFlags := 1, nameIndex := 5, descriptorIndex := 6, attributes := #[] }] 33 0 #[] #[])
  fields := #[]
  methods := #[k0m0]
  instanceTypes := #[]
  staticTypes := #[]
  resolved := Array.replicate 124 none
  statics := none }

def pool1 : Array CpInfo := pool [(2, .class_ 4), (1, u "java/lang/Object"), (0, u "<init>"), (0, u "()V"), (0, .integer 2147483647), (0, .fieldref 9 10), (0, .class_ 11), (0, .nameAndType 12 13), (0, u "com/example/umask/umask/FileType"), (0, u "REGULAR"), (0, u "Lcom/example/umask/umask/FileType;"), (0, .fieldref 9 15), (0, .nameAndType 16 13), (0, u "DIRECTORY"), (0, .fieldref 9 18), (0, .nameAndType 19 13), (0, u "SYMBOLIC_LINK"), (0, .fieldref 9 21), (0, .nameAndType 22 13), (0, u "CHARACTER_DEVICE"), (0, .fieldref 9 24), (0, .nameAndType 25 13), (0, u "BLOCK_DEVICE"), (0, .fieldref 9 27), (0, .nameAndType 28 13), (0, u "FIFO"), (0, .fieldref 9 30), (0, .nameAndType 31 13), (0, u "SOCKET"), (0, .methodref 9 33), (0, .nameAndType 34 35), (0, u "fromLsLetter"), (0, u "(C)Lcom/example/umask/umask/FileType;"), (0, .methodref 9 37), (0, .nameAndType 38 39), (0, u "lsLetter"), (0, u "()C"), (0, .class_ 41), (0, u "com/example/umask/umask/FileTypeFromLsLetterPinLaw"), (2, u "law"), (0, u "(I)Z")] 3

def k1m0 : Method := { name := "<init>", desc := "()V", sig := { parameters := [], returnType := none }, accessFlags := 1, code := none }
def k1c1 : Code := { maxStack := 2, maxLocals := 5, code := code, exceptionTable := #[], attributes := #[] }
def k1m1 : Method := { name := "law", desc := "(I)Z", sig := { parameters := [.int], returnType := some .boolean }, accessFlags := 9, code := some k1c1 }
/-- com/example/umask/umask/FileTypeFromLsLetterPinLaw -/
def k1 : Class := { plain "com/example/umask/umask/FileTypeFromLsLetterPinLaw" (some 0) with
  accessFlags := 49
  interfaces := #[]
  cf := some (fileOf pool1 40 #[] #[{ accessFlags := 1, nameIndex := 5, descriptorIndex := 6, attributes := #[] }, { accessFlags := 9, nameIndex := 44, descriptorIndex := 45, attributes := #[] }] 49 2 #[] #[])
  fields := #[]
  methods := #[k1m0, k1m1]
  instanceTypes := #[]
  staticTypes := #[]
  resolved := Array.replicate 49 none
  statics := none }

def pool2 : Array CpInfo := pool [(1, .class_ 2), (0, u "java/lang/constant/Constable"), (0, .class_ 4), (0, u "java/lang/Object")] 6

/-- java/lang/constant/Constable -/
def k2 : Class := { plain "java/lang/constant/Constable" (some 0) with
  accessFlags := 1537
  interfaces := #[]
  cf := some (fileOf pool2 1 #[] #[] 1537 3 #[] #[])
  fields := #[]
  methods := #[]
  instanceTypes := #[]
  staticTypes := #[]
  resolved := Array.replicate 11 none
  statics := none }

def pool3 : Array CpInfo := pool [(1, .class_ 2), (0, u "java/lang/Comparable"), (0, .class_ 4), (0, u "java/lang/Object")] 7

/-- java/lang/Comparable -/
def k3 : Class := { plain "java/lang/Comparable" (some 0) with
  accessFlags := 1537
  interfaces := #[]
  cf := some (fileOf pool3 1 #[] #[] 1537 3 #[] #[])
  fields := #[]
  methods := #[]
  instanceTypes := #[]
  staticTypes := #[]
  resolved := Array.replicate 12 none
  statics := none }

def pool4 : Array CpInfo := pool [(1, .class_ 2), (0, u "java/io/Serializable"), (0, .class_ 4), (0, u "java/lang/Object")] 2

/-- java/io/Serializable -/
def k4 : Class := { plain "java/io/Serializable" (some 0) with
  accessFlags := 1537
  interfaces := #[]
  cf := some (fileOf pool4 1 #[] #[] 1537 3 #[] #[])
  fields := #[]
  methods := #[]
  instanceTypes := #[]
  staticTypes := #[]
  resolved := Array.replicate 7 none
  statics := none }

def pool5 : Array CpInfo := pool [(2, .class_ 4), (1, u "java/lang/Enum"), (0, u "name"), (0, u "Ljava/lang/String;"), (2, u "ordinal"), (0, u "I"), (1, .class_ 14), (1, u "java/lang/Object"), (4, u "hash"), (86, .class_ 108), (1, u "java/lang/Enum$EnumDesc"), (2, .class_ 112), (0, u "java/lang/constant/Constable"), (0, .class_ 114), (0, u "java/lang/Comparable"), (0, .class_ 116), (0, u "java/io/Serializable")] 87

/-- java/lang/Enum -/
def k5 : Class := { plain "java/lang/Enum" (some 0) with
  accessFlags := 1057
  interfaces := #[2, 3, 4]
  cf := some (fileOf pool5 2 #[.nestMembers #[106]] #[] 1057 12 #[111, 113, 115] #[{ accessFlags := 18, nameIndex := 5, descriptorIndex := 6, attributes := #[] }, { accessFlags := 18, nameIndex := 9, descriptorIndex := 10, attributes := #[] }, { accessFlags := 2, nameIndex := 19, descriptorIndex := 10, attributes := #[] }])
  fields := #[{ name := "name", type := (.object "java/lang/String"), accessFlags := 18, slot := 0, constantValue := 0 }, { name := "ordinal", type := .int, accessFlags := 18, slot := 1, constantValue := 0 }, { name := "hash", type := .int, accessFlags := 2, slot := 2, constantValue := 0 }]
  methods := #[]
  instanceTypes := #[(.object "java/lang/String"), .int, .int]
  staticTypes := #[]
  resolved := Array.replicate 204 none
  statics := none }

def pool6 : Array CpInfo := pool [(1, .class_ 2), (0, u "com/example/umask/umask/FileType"), (2, u "REGULAR"), (0, u "Lcom/example/umask/umask/FileType;"), (2, u "DIRECTORY"), (2, u "SYMBOLIC_LINK"), (2, u "CHARACTER_DEVICE"), (2, u "BLOCK_DEVICE"), (2, u "FIFO"), (2, u "SOCKET"), (2, u "$VALUES"), (0, u "[Lcom/example/umask/umask/FileType;"), (6, .class_ 37), (1, u "java/lang/Enum"), (6, .fieldref 1 45), (0, .nameAndType 46 47), (0, u "lsLetter"), (0, u "C"), (2, u "format"), (0, u "I"), (0, .fieldref 1 53), (0, .nameAndType 54 28), (0, u "TYPES"), (39, u "FORMAT_BITS"), (7, u "()C"), (0, u "fromLsLetter"), (0, u "(C)Lcom/example/umask/umask/FileType;")] 25

def k6c0 : Code := { maxStack := 1, maxLocals := 1, code := prog_16_method_4_code, exceptionTable := #[], attributes := #[] }
def k6m0 : Method := { name := "lsLetter", desc := "()C", sig := { parameters := [], returnType := some .char }, accessFlags := 1, code := some k6c0 }
def k6c1 : Code := { maxStack := 3, maxLocals := 5, code := prog_16_method_5_code, exceptionTable := #[], attributes := #[] }
def k6m1 : Method := { name := "fromLsLetter", desc := "(C)Lcom/example/umask/umask/FileType;", sig := { parameters := [.char], returnType := some (.object "com/example/umask/umask/FileType") }, accessFlags := 9, code := some k6c1 }
/-- com/example/umask/umask/FileType -/
def k6 : Class := { plain "com/example/umask/umask/FileType" (some 5) with
  accessFlags := 16433
  interfaces := #[]
  cf := some (fileOf pool6 1 #[] #[{ accessFlags := 1, nameIndex := 46, descriptorIndex := 102, attributes := #[] }, { accessFlags := 9, nameIndex := 103, descriptorIndex := 104, attributes := #[] }] 16433 35 #[] #[{ accessFlags := 16409, nameIndex := 5, descriptorIndex := 6, attributes := #[] }, { accessFlags := 16409, nameIndex := 9, descriptorIndex := 6, attributes := #[] }, { accessFlags := 16409, nameIndex := 12, descriptorIndex := 6, attributes := #[] }, { accessFlags := 16409, nameIndex := 15, descriptorIndex := 6, attributes := #[] }, { accessFlags := 16409, nameIndex := 18, descriptorIndex := 6, attributes := #[] }, { accessFlags := 16409, nameIndex := 21, descriptorIndex := 6, attributes := #[] }, { accessFlags := 16409, nameIndex := 24, descriptorIndex := 6, attributes := #[] }, { accessFlags := 24, nameIndex := 94, descriptorIndex := 51, attributes := #[] }, { accessFlags := 26, nameIndex := 54, descriptorIndex := 28, attributes := #[] }, { accessFlags := 18, nameIndex := 46, descriptorIndex := 47, attributes := #[] }, { accessFlags := 18, nameIndex := 50, descriptorIndex := 51, attributes := #[] }, { accessFlags := 4122, nameIndex := 27, descriptorIndex := 28, attributes := #[] }])
  fields := #[{ name := "REGULAR", type := (.object "com/example/umask/umask/FileType"), accessFlags := 16409, slot := 0, constantValue := 0 }, { name := "DIRECTORY", type := (.object "com/example/umask/umask/FileType"), accessFlags := 16409, slot := 1, constantValue := 0 }, { name := "SYMBOLIC_LINK", type := (.object "com/example/umask/umask/FileType"), accessFlags := 16409, slot := 2, constantValue := 0 }, { name := "CHARACTER_DEVICE", type := (.object "com/example/umask/umask/FileType"), accessFlags := 16409, slot := 3, constantValue := 0 }, { name := "BLOCK_DEVICE", type := (.object "com/example/umask/umask/FileType"), accessFlags := 16409, slot := 4, constantValue := 0 }, { name := "FIFO", type := (.object "com/example/umask/umask/FileType"), accessFlags := 16409, slot := 5, constantValue := 0 }, { name := "SOCKET", type := (.object "com/example/umask/umask/FileType"), accessFlags := 16409, slot := 6, constantValue := 0 }, { name := "FORMAT_BITS", type := .int, accessFlags := 24, slot := 7, constantValue := 0 }, { name := "TYPES", type := (.array (.object "com/example/umask/umask/FileType")), accessFlags := 26, slot := 8, constantValue := 0 }, { name := "lsLetter", type := .char, accessFlags := 18, slot := 3, constantValue := 0 }, { name := "format", type := .int, accessFlags := 18, slot := 4, constantValue := 0 }, { name := "$VALUES", type := (.array (.object "com/example/umask/umask/FileType")), accessFlags := 4122, slot := 9, constantValue := 0 }]
  methods := #[k6m0, k6m1]
  instanceTypes := #[(.object "java/lang/String"), .int, .int, .char, .int]
  staticTypes := #[(.object "com/example/umask/umask/FileType"), (.object "com/example/umask/umask/FileType"), (.object "com/example/umask/umask/FileType"), (.object "com/example/umask/umask/FileType"), (.object "com/example/umask/umask/FileType"), (.object "com/example/umask/umask/FileType"), (.object "com/example/umask/umask/FileType"), .int, (.array (.object "com/example/umask/umask/FileType")), (.array (.object "com/example/umask/umask/FileType"))]
  resolved := Array.replicate 130 none
  statics := some 0 }

def pool7 : Array CpInfo := pool [(1, u "java/lang/Cloneable"), (0, .class_ 1), (0, u "java/lang/Object"), (0, .class_ 3)] 3

/-- java/lang/Cloneable -/
def k7 : Class := { plain "java/lang/Cloneable" (some 0) with
  accessFlags := 1537
  interfaces := #[]
  cf := some (fileOf pool7 2 #[] #[] 1537 4 #[] #[])
  fields := #[]
  methods := #[]
  instanceTypes := #[]
  staticTypes := #[]
  resolved := Array.replicate 8 none
  statics := none }

/-- the primitive byte -/
def k8 : Class := { plain "byte" none with kind := .primitive 'B', accessFlags := 0x411 }
/-- [B -/
def k9 : Class := { plain "[B" (some 0) with kind := .array 8 .byte, interfaces := #[7, 4], accessFlags := 1041 }

/-- the primitive int -/
def k10 : Class := { plain "int" none with kind := .primitive 'I', accessFlags := 0x411 }
/-- [I -/
def k11 : Class := { plain "[I" (some 0) with kind := .array 10 .int, interfaces := #[7, 4], accessFlags := 1041 }

/-- [Lcom/example/umask/umask/FileType; -/
def k12 : Class := { plain "[Lcom/example/umask/umask/FileType;" (some 0) with kind := .array 6 (.object "com/example/umask/umask/FileType"), interfaces := #[7, 4], accessFlags := 1041 }

def heap : Heap := #[{ cls := 6, slots := #[.ref 2, .ref 4, .ref 5, .ref 3, .ref 7, .ref 6, .ref 8, .int 0, .ref 1, .null], vm := .statics 6 },
  { cls := 12, slots := #[.ref 2, .ref 4, .ref 5, .ref 3, .ref 7, .ref 6, .ref 8], vm := .none },
  { cls := 6, slots := #[.null, .int 0, .int 0, .int 45, .int 0], vm := .none },
  { cls := 6, slots := #[.null, .int 0, .int 0, .int 99, .int 0], vm := .none },
  { cls := 6, slots := #[.null, .int 0, .int 0, .int 100, .int 0], vm := .none },
  { cls := 6, slots := #[.null, .int 0, .int 0, .int 108, .int 0], vm := .none },
  { cls := 6, slots := #[.null, .int 0, .int 0, .int 112, .int 0], vm := .none },
  { cls := 6, slots := #[.null, .int 0, .int 0, .int 98, .int 0], vm := .none },
  { cls := 6, slots := #[.null, .int 0, .int 0, .int 115, .int 0], vm := .none }]
def classes : Array Class := #[k0, k1, k2, k3, k4, k5, k6, k7, k8, k9, k10, k11, k12]
def interned : List (Array UInt16 × Addr) := []
def slotsUsed : Nat := 52
def theMethod : MethodId := ⟨1, 1⟩
def args0 : Array Value := #[.int 5]
def aboutOver (below : List Frame) : State where
  vm := { classes := classes, interned := interned.toArray }
  heap := heap
  slotsUsed := slotsUsed
  threads := #[{ frames := .invoking theMethod args0 :: below }]
def below0 : List Frame := [.native { method := ⟨0, 0⟩, args := #[] }]
def about1 : State := aboutOver below0
def p0 : Program := .bare "" "" ""
def e0 : Env := launch0.env 0 0 0
theorem w_frames : about1.frames = Frame.invoking theMethod args0 :: below0 := rfl
set_option maxRecDepth 65536 in
theorem w_args : argsFit about1.vm theMethod args0 = true := by decide +kernel
set_option maxRecDepth 65536 in
theorem w_heap : heapFits about1 = true := by decide +kernel
set_option maxRecDepth 65536 in
theorem w_runnable : about1.curStatus? = some .runnable := by decide +kernel
set_option maxRecDepth 65536 in
theorem w_alone : about1.alone = true := by decide +kernel
set_option maxRecDepth 65536 in
theorem w_named : about1.methodNamed? x = some theMethod := by decide +kernel
set_option maxRecDepth 65536 in
theorem w_hears : about1.hears theMethod below0 = true := by decide +kernel
set_option maxRecDepth 65536 in
theorem w_ripe : about1.ripe theMethod args0 below0 = true := by decide +kernel
theorem w_running : about1.status = .running := rfl
set_option maxRecDepth 65536 in
theorem w_room : about1.hasRoom e0.platform room_1 = true :=
  launch0.hasRoom_least _ room_1 (by decide +kernel) (by decide +kernel) (by decide +kernel) (by decide +kernel) (by decide +kernel) (by decide +kernel)
theorem allAtoms_all (ts : List Jvm.Cond) (a : Array Jvm.Value) (st : Jvm.State) : (allAtoms ts).before a st = ts.all (fun c => c.before a st) := by
  induction ts with
  | nil => rfl
  | cons c t ih =>
    show (Jvm.Cond.and c (allAtoms t)).before a st = _
    rw [Jvm.Cond.before_and, ih, List.all_cons]
def words1 : List Jvm.Cond := Jvm.Cond.code x code maxLocals ret :: tables_1
/-- a 'code' word, met by the world's own term for the bytes: nothing is compared byte by byte -/
theorem code_word {y : MethodName} {bytes : ByteArray} {mx : Nat} {rt : Option FieldType} {a : Array Value} {s : State} {m : MethodId} {meth : Method} {c : Code} (h1 : s.methodNamed? y = some m) (h2 : s.vm.method? m = some meth) (h3 : meth.code = some c) (h4 : c.code = bytes)
    (h5 : (c.maxLocals == mx && c.exceptionTable.isEmpty && decide (c.maxStack ≤ mostOperands) && decide (meth.sig.returnType = rt) && !meth.locks && decide (parseMethodDescriptor y.desc = some meth.sig)) = true) : (Jvm.Cond.code y bytes mx rt).before a s = true := by
  simp only [Bool.and_eq_true, beq_iff_eq, Bool.not_eq_true', decide_eq_true_eq] at h5
  obtain ⟨⟨⟨⟨⟨g1, g2⟩, g3⟩, g4⟩, g5⟩, g6⟩ := h5
  simp [Cond.before, Cond.holds, Cond.value, h1, h2, h3, h4, g1, g2, g3, g4, g5, g6]
def isCode : Jvm.Cond → Bool
  | .code _ _ _ _ => true
  | _ => false
theorem all_split {L : List Jvm.Cond} {P : Jvm.Cond → Bool} (h1 : L.all (fun c => isCode c || P c) = true) (h2 : ∀ c ∈ L.filter isCode, P c = true) : L.all P = true := by
  refine List.all_eq_true.mpr fun c hc => ?_
  have h := List.all_eq_true.mp h1 c hc
  rcases Bool.eq_false_or_eq_true (isCode c) with hi | hi
  · exact h2 c (List.mem_filter.mpr ⟨hc, hi⟩)
  · simpa [hi] using h
set_option maxRecDepth 65536 in
theorem w_c0 : (Jvm.Cond.code x code maxLocals ret).before args0 about1 = true := code_word (m := ⟨1, 1⟩) (meth := k1m1) (c := k1c1) (by decide +kernel) rfl rfl rfl (by decide +kernel)
set_option maxRecDepth 65536 in
theorem w_c1 : (Jvm.Cond.code ({ cls := "com/example/umask/umask/FileType", name := "fromLsLetter", desc := "(C)Lcom/example/umask/umask/FileType;" } : Jvm.MethodName) prog_16_method_5_code (5 : Nat) (Option.some (Jvm.ClassFile.FieldType.object "com/example/umask/umask/FileType"))).before args0 about1 = true := code_word (m := ⟨6, 1⟩) (meth := k6m1) (c := k6c1) (by decide +kernel) rfl rfl rfl (by decide +kernel)
set_option maxRecDepth 65536 in
theorem w_c2 : (Jvm.Cond.code ({ cls := "com/example/umask/umask/FileType", name := "lsLetter", desc := "()C" } : Jvm.MethodName) prog_16_method_4_code (1 : Nat) (Option.some Jvm.ClassFile.FieldType.char)).before args0 about1 = true := code_word (m := ⟨6, 0⟩) (meth := k6m0) (c := k6c0) (by decide +kernel) rfl rfl rfl (by decide +kernel)
def codes1 : List Jvm.Cond := [Jvm.Cond.code x code maxLocals ret, Jvm.Cond.code ({ cls := "com/example/umask/umask/FileType", name := "fromLsLetter", desc := "(C)Lcom/example/umask/umask/FileType;" } : Jvm.MethodName) prog_16_method_5_code (5 : Nat) (Option.some (Jvm.ClassFile.FieldType.object "com/example/umask/umask/FileType")), Jvm.Cond.code ({ cls := "com/example/umask/umask/FileType", name := "lsLetter", desc := "()C" } : Jvm.MethodName) prog_16_method_4_code (1 : Nat) (Option.some Jvm.ClassFile.FieldType.char)]
set_option maxRecDepth 65536 in
theorem codes_eq : words1.filter isCode = codes1 := rfl
theorem w_codes : ∀ c ∈ words1.filter isCode, c.before args0 about1 = true := by
  rw [codes_eq]
  intro c hc
  simp only [codes1, List.mem_cons, List.not_mem_nil, or_false] at hc
  rcases hc with rfl | rfl | rfl
  · exact w_c0
  · exact w_c1
  · exact w_c2
set_option maxRecDepth 65536 in
theorem w_t1 : (words1.take 24).all (fun c => isCode c || c.before args0 about1) = true := by decide +kernel
set_option maxRecDepth 65536 in
theorem w_t2 : (words1.drop 24).all (fun c => isCode c || c.before args0 about1) = true := by decide +kernel
theorem w_tables : (allAtoms (Jvm.Cond.code x code maxLocals ret :: tables_1)).before args0 about1 = true := by
  rw [allAtoms_all]
  show words1.all (fun c => c.before args0 about1) = true
  refine all_split ?_ w_codes
  rw [← List.take_append_drop 24 words1, List.all_append, w_t1, w_t2]
  rfl
set_option maxRecDepth 65536 in
theorem w_case : (Jvm.Cond.and given_1 narrow_1).before args0 about1 = true := by decide +kernel
theorem w_applies : (headSpec (Jvm.Cond.code x code maxLocals ret :: tables_1) room_1).applies x e0.platform about1 = true :=
  (Spec.applies_iff w_frames).mpr ⟨w_running, w_runnable, w_alone, w_named, w_hears, w_ripe, w_room, w_tables⟩
theorem atStart : AtStart classFile x code maxLocals ret World_1 tables_1 room_1 Calls_1 rest_1 Pre_1 launch0 p0 e0 about1 theMethod args0 below0 :=
  ⟨lists_1, trivial, launch0.admits_env _ _ _, launch0.least_env, fairChoices_fair.cas, fairChoices_fair.clock, w_frames, w_args, w_heap, w_applies, trivial, trivial, w_case⟩
end start1
theorem witness_1 : WitnessClaimed_1 := ⟨start1.p0, start1.e0, start1.about1, start1.theMethod, start1.args0, start1.below0, start1.atStart⟩
end Jvm.Pilot.@@N@@
