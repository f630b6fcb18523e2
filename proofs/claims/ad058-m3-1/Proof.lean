import JvmDerived
import JvmDerived.Pilot.@@N@@Statement
import JvmDerived.Pilot.@@N@@Code
set_option linter.unusedVariables false
set_option linter.unusedSimpArgs false
namespace Jvm.RoadKit
open Sem ClassFile Op Lib Jvm.Stand Jvm.Free Jvm.LawKit
section New
variable {p : Program} {l : Launch} {e : Env} {R : Room} {s : State} {m : MethodId} {args : Array Value} {below : List Frame} {meth : Method} {c : Code} {T : State} {locs : List Loc} {cells slots : Nat}
theorem retI (X : Stand p l e R s m args below meth c T locs cells slots) (hx : p.tables.exec = Jvm.exec) {pc : Nat} {Ls : Array Slot} {z : Int32} {rest : List Value} (hret : meth.sig.returnType = some .int) (hd : decode c.code pc = .ok (.ireturn, 1)) {fs : List Frame}
    (hl : ∀ (f : JFrame) (acts : List Action), f.method = m → f.locked = none → f.entered = [] → (doReturn e (T.setTop f) acts (some (.int z))).1 = T.setFrames fs) : Steps p.tables e below (T.setTop (mkF m pc Ls (.int z :: rest))) (T.setFrames fs) := by
  have hm' : T.vm.method? m = some meth := X.method'
  have hn : narrow .int (.int z) = .int z := rfl
  show Steps p.tables e below (T.setTop { method := m, pc := pc, locals := Ls, stack := _ :: rest, locked := none }) _
  jvm_step X.here [X.here.top, hx, hd, hm', hret, hn]
  first | (intro acts; rw [hl _ acts rfl rfl rfl]) | rw [hl _ _ rfl rfl rfl]
  exact Steps.refl _
theorem own_retR (X : Stand p l e R s m args below meth c T locs cells slots) (hx : p.tables.exec = Jvm.exec) {pc : Nat} {Ls : Array Slot} {w : Value} {t : FieldType} {rest : List Value} (hret : meth.sig.returnType = some t) (ht : t.isReference = true) (hw : w.isRef = true) (hd : decode c.code pc = .ok (.areturn, 1)) {fs : List Frame}
    (hl : ∀ (f : JFrame) (acts : List Action), f.method = m → f.locked = none → f.entered = [] → (doReturn e (T.setTop f) acts (some w)).1 = T.setFrames fs) : Steps p.tables e below (T.setTop (mkF m pc Ls (w :: rest))) (T.setFrames fs) :=
  retOut X hx hret (by rcases ref_cases hw with rfl | ⟨z, rfl⟩ <;> cases t <;> first | rfl | (cases ht; done)) (Or.inr (Or.inr (Or.inr (Or.inr ⟨rfl, ht, hw⟩)))) hd hl
end New
theorem own_eqv {args : Array Value} {first s : State} {o : Option Outcome} {idx : List Nat} {a b : Term} {v : Value} (h : (Jvm.Cond.eq a b).value args first o s idx = some true) (hb : b.eval args first o idx s = some v) (hk : (match v with | .int _ => true | .ref _ => true | .long _ => true | _ => false) = true := by rfl) : a.eval args first o idx s = some v := by
  simp only [Cond.value, hb] at h
  cases ha : a.eval args first o idx s with
  | none => simp [ha] at h
  | some x => cases x <;> cases v <;> simp_all
theorem own_selR {Z s : State} {a0 args : Array Value} {y y' : MethodName} {K n' d' : String} (hZ : Z.Warmed39 s.vm) (wi : (Cond.selects K y' ⟨y.cls, n', d'⟩).before a0 Z = true) (wp : (Cond.privateMethod y).before a0 Z = true) (wm : (Cond.instanceMethod y).before a0 Z = true) (hy : y.cls ≠ "java/lang/invoke/MethodHandle" ∧ y.cls ≠ "java/lang/invoke/VarHandle") : (Cond.selects y.cls y y).before args s = true := by
  have wi' : (Cond.selects K y' ⟨y.cls, n', d'⟩).before args s = true := mvT hZ wi
  have wm' : (Cond.instanceMethod y).before args s = true := mvT hZ wm
  obtain ⟨c2, r2, m2, -, -, q3, -, kP, hkP, hkPi⟩ := Cond.selects_spec wi'
  have hc := findClass_of_methodNamed q3
  exact selects_self_of_private (c := m2.cls) hc hkP hkPi (Cond.privateMethod_at (mvP hZ wp (args := #[]))) wm' hy
end Jvm.RoadKit
namespace Jvm.RoadKit
open Sem ClassFile Op Lib Jvm.Stand Jvm.Free Jvm.LawKit
theorem own_push {Z : State} {h h' : Heap} {a : Addr} {k : ClassId} {ty : FieldType} {z j : Int32} {vs : List Value} {dv v : Value} (F : Arv Z h a k ty z vs dv) (hv : fits ty v = true) (W : Wr h h' a j.toNatClampNeg v) (hj : j.toNatClampNeg = vs.length) : Arv Z h' a k ty z (vs ++ [v]) dv := by
  obtain ⟨c, A, q1, S, q3, H, G⟩ := F.pad (pad_rep vs dv 1)
  have q := Arv.set A q1 S q3 H G hv W vs.length hj (by simp)
  have e : (vs ++ List.replicate 1 dv).set vs.length v = vs ++ [v] := by simp
  rw [e] at q; exact q
theorem own_padz {Z : State} {h : Heap} {a : Addr} {k : ClassId} {ty : FieldType} {z : Int32} {vs : List Value} {dv : Value} (F : Arv Z h a k ty z vs dv) : ¬ z < 0 := by
  obtain ⟨c, A, q1, S, q3, H, G⟩ := F; exact q3
section Cp
variable {p : Program} {l : Launch} {e : Env} {R : Room} {s : State} {m : MethodId} {args : Array Value} {below : List Frame} {meth : Method} {c : Code} {T : State} {locs : List Loc} {cells slots : Nat} {Z : State} {a0 : Array Value} {h : Heap}
theorem own_toN {z : Int32} (q : ¬ z < 0) : Int32.ofNat z.toNatClampNeg = z ∧ z.toNatClampNeg < 2 ^ 31 := by
  have := back32 q
  refine ⟨this.1, ?_⟩
  have r := rng32 z
  simp only [Int32.toNatClampNeg]; omega
theorem own_acopy (X : Stand p l e R s m args below meth c T locs cells slots) (hx : p.tables.exec = Jvm.exec) (hZ : Z.Warmed39 s.vm) {own : String} {index : Nat} (hown : s.vm.findClass own = some m.cls)
    (w1 : (Cond.methodLink own index acN).before a0 Z = true) (w2 : (Cond.native acN).before a0 Z = true) (w3 : (Cond.static acN).before a0 Z = true) (w4 : (Cond.initialized "java/lang/System").before a0 Z = true)
    (eT : T.heap = h) {a b : Addr} {ka kb : ClassId} {za zb jo jq jn : Int32} {vs ws : List Value} (Fs : Arv Z h a ka .byte za vs (.int 0)) (Fd : Arv Z h b kb .byte zb ws (.int 0))
    (ho : jo = 0) (hq : jq.toNatClampNeg = ws.length ∧ ¬ jq < 0) (hn : ¬ jn < 0 ∧ vs.length ≤ jn.toNatClampNeg ∧ jn.toNatClampNeg ≤ za.toNatClampNeg ∧ ws.length + jn.toNatClampNeg ≤ zb.toNatClampNeg)
    {g : JFrame} (hg : g.method = m) (hsize : g.locals.size = c.maxLocals) {rest : List Value} (hstack : g.stack = .int jn :: .int jq :: .ref b :: .int jo :: .ref a :: rest) (hdg : decode c.code g.pc = .ok (.invokestatic index, 3))
    {W : Nat} (hW : 2 * g.monitorRoom + (rest.map fun v => v.category).sum ≤ W) (hfr : 1 ≤ R.frames) (hlo : W + 40 ≤ R.locals) {n0 : Nat} (hb0 : n0 ≤ b) (N : Fr n0 locs) :
    ∃ (T' : State) (h' : Heap) (L' : List Loc), Stand p l e R s m args below meth c T' L' cells slots ∧ T'.heap = h' ∧ Keep h h' [b] ∧ Fr n0 L' ∧ Arv Z h' b kb .byte zb (ws ++ vs) (.int 0) ∧
      ∀ target, Steps p.tables e below (T'.setTop { g with pc := g.pc + 3, stack := rest }) target → Steps p.tables e below (T.setTop g) target := by
  subst eT
  obtain ⟨A, A1, A2, A3, A4, A5, A6⟩ := Fs
  obtain ⟨B, B1, B2, B3, B4, B5, B6⟩ := Fd
  have al : Z.vm.Alike T.vm := hZ.alike.trans X.warmed.alike
  obtain ⟨hq1, hq2⟩ := hq
  obtain ⟨hn1, hn2, hn3, hn4⟩ := hn
  have zA := own_toN A4
  have zB := own_toN B4
  have zn := own_toN hn1
  have zq := own_toN hq2
  have XA : Jvm.Free.XT.Arr .byte a A T := ⟨A1.1, State.isArrayOf_alike al A1.2.1, A1.2.2, by rw [A3]; exact zA.2⟩
  have XB : Jvm.Free.XT.Arr .byte b B T := ⟨B1.1, State.isArrayOf_alike al B1.2.1, B1.2.2, by rw [B3]; exact zB.2⟩
  have hget : ∀ i, i < A.slots.size → A.slots.getD i .null = vs.getD i (.int 0) := fun i hi => by
    have := A5 i hi
    simp only [Array.getD_eq_getD_getElem?, this, Option.getD_some]
  obtain ⟨T', B', X', P, c1, c2, c3, c4, st⟩ := Jvm.Stand.acopy X hx (own := own) (index := index) hown (by
    intro w hw
    simp only [Jvm.Free.XT.acW, List.mem_cons, List.not_mem_nil, or_false] at hw
    rcases hw with rfl | rfl | rfl | rfl
    · exact mvT hZ w1
    · exact mvT hZ w2
    · exact mvT hZ w3
    · exact mvT hZ w4) XA XB rfl (o := 0) (q := ws.length) (n := jn.toNatClampNeg) ho (by rw [← hq1]; exact zq.1.symm) zn.1.symm (by omega) (by omega)
    (fun i hi => ⟨by rw [hget _ (by omega)]; exact A6 _ (by omega), fun q => by cases q⟩) hg hsize hstack hdg hW hfr hlo
  have hkeep : Keep T.heap T'.heap [b] := ⟨Nat.le_of_eq P.2.2.symm, fun x cx hx hm => P.other (fun q => hm (by rw [q]; exact List.mem_singleton.mpr rfl)) hx, fun x cx hx => by
    by_cases q : x = b
    · subst q; cases B1.1.symm.trans hx; exact ⟨B', P.1, c1, c2, c3⟩
    · exact ⟨cx, P.other q hx, rfl, rfl, rfl⟩⟩
  have hval : ∀ j, j < B.slots.size → B'.slots[j]? = some ((ws ++ vs).getD j (.int 0)) := fun j hj => by
    rw [c4 j]
    by_cases hh : ws.length ≤ j ∧ j < ws.length + jn.toNatClampNeg
    · rw [if_pos hh, hget _ (by omega)]
      simp only [List.getD_eq_getElem?_getD, List.getElem?_append_right hh.1, Nat.zero_add]
    · rw [if_neg hh, B5 j hj]
      by_cases h1 : j < ws.length
      · simp only [List.getD_eq_getElem?_getD, List.getElem?_append_left h1]
      · have h2 : ws.length + jn.toNatClampNeg ≤ j := by omega
        have e1 : ws.getD j (.int 0) = .int 0 := by simp [List.getD_eq_getElem?_getD, List.getElem?_eq_none (show ws.length ≤ j by omega)]
        have e2 : (ws ++ vs).getD j (.int 0) = .int 0 := by simp [List.getD_eq_getElem?_getD, List.getElem?_eq_none (show (ws ++ vs).length ≤ j by simp; omega)]
        rw [e1, e2]
  have hfit : ∀ j, j < B.slots.size → fits .byte ((ws ++ vs).getD j (.int 0)) = true := fun j hj => by
    by_cases h1 : j < ws.length
    · have := B6 j hj
      simp only [List.getD_eq_getElem?_getD, List.getElem?_append_left h1] at this ⊢; exact this
    · by_cases h2 : j - ws.length < A.slots.size
      · have := A6 _ h2
        simp only [List.getD_eq_getElem?_getD, List.getElem?_append_right (Nat.le_of_not_lt h1)] at this ⊢; exact this
      · have e2 : (ws ++ vs).getD j (.int 0) = .int 0 := by simp [List.getD_eq_getElem?_getD, List.getElem?_eq_none (show (ws ++ vs).length ≤ j by simp; omega)]
        rw [e2]; rfl
  have alb : ∃ kk, Z.vm.classes[B.cls]? = some kk := by obtain ⟨-, k, hk, -⟩ := B1.2.1; exact ⟨k, hk⟩
  have hArr : Arr Z T'.heap b B' .byte := by
    obtain ⟨q1, k, q2, q3⟩ := B1.2.1
    exact ⟨P.1, ⟨by rw [c2]; exact q1, k, by rw [c1]; exact q2, q3⟩, by rw [c2]; exact B1.2.2⟩
  exact ⟨T', _, _, X', rfl, hkeep, N.app (fun y hy => by rw [copyLocs_base hy]; exact hb0), ⟨B', hArr, by rw [c1]; exact B2, by rw [c3]; exact B3, B4, fun j hj => hval j (by rw [← c3]; exact hj), fun j hj => hfit j (by rw [← c3]; exact hj)⟩, st⟩
end Cp
end Jvm.RoadKit
namespace Jvm.RoadKit
open Sem ClassFile Op Lib Jvm.Stand Jvm.Free Jvm.LawKit
theorem own_clone {p : Program} {l : Launch} {e : Env} {R : Room} {s : State} {m : MethodId} {args : Array Value} {below : List Frame} {meth : Method} {c : Code} {T : State} {locs : List Loc} {cells slots : Nat} {Z : State} {a0 : Array Value} {h : Heap} (X : Stand p l e R s m args below meth c T locs cells slots) (hx : p.tables.exec = Jvm.exec) (hZ : Z.Warmed39 s.vm) {own ad : String} {index : Nat} (hown : s.vm.findClass own = some m.cls)
    (w1 : (Cond.methodLink own index ⟨ad, "clone", "()Ljava/lang/Object;"⟩).before a0 Z = true) (w2 : (Cond.sameMethod ad "java/lang/Object" "clone" "()Ljava/lang/Object;").before a0 Z = true) (w3 : (Cond.native ⟨"java/lang/Object", "clone", "()Ljava/lang/Object;"⟩).before a0 Z = true)
    (w4 : (Cond.instanceMethod ⟨"java/lang/Object", "clone", "()Ljava/lang/Object;"⟩).before a0 Z = true) (w5 : (Cond.selects ad ⟨ad, "clone", "()Ljava/lang/Object;"⟩ ⟨"java/lang/Object", "clone", "()Ljava/lang/Object;"⟩).before a0 Z = true) (w6 : (Cond.castable ad "java/lang/Cloneable").before a0 Z = true)
    (eT : T.heap = h) {a : Addr} {ty : FieldType} {k : ClassId} {z : Int32} {vs : List Value} {dv : Value} (F : Arv Z h a k ty z vs dv) (E : Exa Z h a ad) {g : JFrame} (hg : g.method = m) (hsize : g.locals.size = c.maxLocals) {rest : List Value} (hst : g.stack = .ref a :: rest) (hd : decode c.code g.pc = .ok (.invokevirtual index, 3))
    (hf : 1 ≤ R.frames) {W cap : Nat} (hW : 2 * g.monitorRoom + (rest.map fun v => v.category).sum ≤ W) (hl : W + 14 ≤ R.locals) (hcap : z.toNatClampNeg ≤ cap) (hc : cells + 1 ≤ R.cells) (hsl : slots + cap ≤ R.slots) :
    ∃ T' h', Stand p l e R s m args below meth c T' locs (cells + 1) (slots + cap) ∧ T'.heap = h' ∧ Ext h h' ∧ Arv Z h' h.size k ty z vs dv ∧ Exa Z h' h.size ad ∧
      ∀ target, Steps p.tables e below (T'.setTop { g with pc := g.pc + 3, stack := .ref h.size :: rest }) target → Steps p.tables e below (T.setTop g) target := by
  exact cloneH X hx hZ hown w1 w2 w3 w4 w5 w6 eT F.arh E hg hsize hst hd hf hW hl hcap hc hsl
end Jvm.RoadKit
namespace Jvm.RoadKit
open Sem ClassFile Op Lib Jvm.Stand Jvm.Free Jvm.LawKit
theorem own_same {Z : State} {a0 : Array Value} {y y' : MethodName} {K n' d' : String} (wi : (Cond.selects K y' ⟨y.cls, n', d'⟩).before a0 Z = true) (wm : (Cond.instanceMethod y).before a0 Z = true) (hy : y.cls ≠ "java/lang/invoke/MethodHandle" ∧ y.cls ≠ "java/lang/invoke/VarHandle") : (Cond.sameMethod y.cls y.cls y.name y.desc).before a0 Z = true := by
  obtain ⟨c2, r2, m2, -, -, q3, -, kP, hkP, hkPi⟩ := Cond.selects_spec wi
  have hc := findClass_of_methodNamed q3
  obtain ⟨mk, methM, hnamed, hmethM, -, -⟩ := Cond.instanceMethod_spec wm
  have hf : Z.methodFound? y.cls y.name y.desc = some mk := State.methodFound?_of_named hnamed hy
  have hn : Z.methodNamed? ⟨y.cls, y.name, y.desc⟩ = some mk := hnamed
  have hc' : Z.vm.findClass y.cls = some m2.cls := hc
  simp [Cond.before, Cond.holds, Cond.value, hc', hf, hn, hkP, hkPi]
end Jvm.RoadKit
namespace Jvm.RoadKit
open Sem ClassFile Op Lib Jvm.Stand Jvm.Free Jvm.LawKit
theorem own_nf {args : Array Value} {s : State} {y y' : MethodName} {K n' d' : String} (w : (Cond.selects K y' ⟨y.cls, n', d'⟩).before args s = true) : NotFace s y := fun r0 h0 => by
  obtain ⟨c2, r2, m2, -, -, q3, -, kP, hkP, hkPi⟩ := Cond.selects_spec w
  have a := findClass_of_methodNamed h0
  have b0 := findClass_of_methodNamed q3
  have b : s.vm.findClass y.cls = some m2.cls := b0
  have e : r0.cls = m2.cls := Option.some.inj (a.symm.trans b)
  exact ⟨kP, by rw [e]; exact hkP, hkPi⟩
end Jvm.RoadKit
namespace Jvm.RoadKit
open Sem ClassFile Op Lib Jvm.Stand Jvm.Free Jvm.LawKit
section Lsw
variable {p : Program} {l : Launch} {e : Env} {R : Room} {s : State} {m : MethodId} {args : Array Value} {below : List Frame} {meth : Method} {c : Code} {T : State} {locs : List Loc} {cells slots : Nat}
theorem own_lswHit (X : Stand p l e R s m args below meth c T locs cells slots) (hx : p.tables.exec = Jvm.exec) {g : JFrame} (hg : g.method = m) {k : Int32} {rest : List Value} (hst : g.stack = .int k :: rest) {df : Int} {prs : Array (Int × Int)} {len : Nat} (hd : decode c.code g.pc = .ok (.lookupswitch df prs, len)) (hs : (prs.toList.zip (prs.toList.drop 1)).all (fun (a, next) => a.1 < next.1) = true) {a off : Int} (hf : prs.find? (·.1 == k.toInt) = some (a, off)) {pc' : Nat} (ho : 0 ≤ (g.pc : Int) + off) (hp : ((g.pc : Int) + off).toNat = pc') {target : State} (k' : Steps p.tables e below (T.setTop { g with pc := pc', stack := rest }) target) : Steps p.tables e below (T.setTop g) target := by
  subst hp; exact lookupswitchHit X hx hg hst hd hs hf ho target k'
theorem own_lswMiss (X : Stand p l e R s m args below meth c T locs cells slots) (hx : p.tables.exec = Jvm.exec) {g : JFrame} (hg : g.method = m) {k : Int32} {rest : List Value} (hst : g.stack = .int k :: rest) {df : Int} {prs : Array (Int × Int)} {len : Nat} (hd : decode c.code g.pc = .ok (.lookupswitch df prs, len)) (hs : (prs.toList.zip (prs.toList.drop 1)).all (fun (a, next) => a.1 < next.1) = true) (hf : prs.find? (·.1 == k.toInt) = none) {pc' : Nat} (ho : 0 ≤ (g.pc : Int) + df) (hp : ((g.pc : Int) + df).toNat = pc') {target : State} (k' : Steps p.tables e below (T.setTop { g with pc := pc', stack := rest }) target) : Steps p.tables e below (T.setTop g) target := by
  subst hp; exact lookupswitchMiss X hx hg hst hd hs hf ho target k'
end Lsw
end Jvm.RoadKit
namespace Jvm.Pilot.@@N@@
namespace StrChars
open Jvm Sem ClassFile Op Lib Jvm.Stand Jvm.Free.XT Jvm.Free.ALB Jvm.Free.JM Jvm.Free
open Jvm.Lib.Cold (StaticIs)
def Ch (a : Addr) (A : Cell) (U : State) : Prop := Arr .char a A U ∧ Typed .char A
theorem Ch.mv {a : Addr} {A : Cell} {U U' : State} (h : Ch a A U) (hal : U.vm.Alike U'.vm) (hh : U'.heap = U.heap) : Ch a A U' := ⟨h.1.mv hal hh, h.2⟩
theorem Ch.keep {a : Addr} {A : Cell} {U U' : State} (h : Ch a A U) (hal : U.vm.Alike U'.vm) (hk : U'.heap[a]? = some A) : Ch a A U' := ⟨h.1.keep hal hk, h.2⟩
def cv (A : Cell) (i : Nat) : Int32 := match A.slots[i]? with | some (.int x) => x | _ => 0
theorem Ch.get {a : Addr} {A : Cell} {U : State} (h : Ch a A U) {i : Nat} (hi : i < A.slots.size) : A.slots[i]? = some (.int (cv A i)) := by
  have e := Array.getElem?_eq_getElem hi
  have f := h.2 i _ e
  unfold cv; rw [e]
  generalize A.slots[i] = v at f
  cases v <;> simp [fits] at f ⊢
def lo8 (x : Int32) : Int32 := x.toInt8.toInt32
theorem fits_lo8 (y : Int32) : fits .byte (.int (lo8 y)) = true := by
  have h1 := y.toInt8.le_toInt
  have h2 := y.toInt8.toInt_lt
  simp only [lo8, fits, Bool.and_eq_true, decide_eq_true_eq, Int32.le_iff_toInt_le, Int8.toInt_toInt32, show (-128 : Int32).toInt = -128 from by decide, show (127 : Int32).toInt = 127 from by decide]
  omega
def Laid (A A' : Cell) (lo hi : Nat) (f : Nat → Value) : Prop := A'.cls = A.cls ∧ A'.vm = A.vm ∧ A'.slots.size = A.slots.size ∧ ∀ i, A'.slots[i]? = if lo ≤ i ∧ i < hi then some (f i) else A.slots[i]?
theorem Laid.zero (A : Cell) (lo : Nat) (f : Nat → Value) : Laid A A lo (lo + 0) f := ⟨rfl, rfl, rfl, fun i => by rw [if_neg (by omega)]⟩
theorem Laid.step {A Ak : Cell} {lo k : Nat} {f : Nat → Value} {v : Value} (h : Laid A Ak lo k f) (hlo : lo ≤ k) (hk : k < Ak.slots.size) (hv : v = f k) : Laid A (Ak.setSlot k v) lo (k + 1) f := by
  refine ⟨h.1, h.2.1, by simpa [Cell.setSlot] using h.2.2.1, fun i => ?_⟩
  by_cases e : k = i
  · subst e; rw [Cell.slots_setSlot_self v hk, if_pos (by omega), hv]
  · rw [Cell.slots_setSlot_ne v e, h.2.2.2 i]
    by_cases q : lo ≤ i ∧ i < k
    · rw [if_pos q, if_pos (by omega)]
    · rw [if_neg q, if_neg (by omega)]
def U16 : String := "java/lang/StringUTF16"
namespace Cmp5
def yN : MethodName := ⟨"java/lang/StringUTF16", "compress", "([CI[BII)I"⟩
abbrev yB : ByteArray := jdk_52_method_21_code
theorem d0 : decode yB 0 = .ok (.iconst 0, 1) := by decide +kernel
theorem d1 : decode yB 1 = .ok (.istore 5, 2) := by decide +kernel
theorem d3 : decode yB 3 = .ok (.iload 5, 2) := by decide +kernel
theorem d5 : decode yB 5 = .ok (.iload 4, 2) := by decide +kernel
theorem d7 : decode yB 7 = .ok (.if_icmp (.ge) 37, 3) := by decide +kernel
theorem d10 : decode yB 10 = .ok (.aload_n 0, 1) := by decide +kernel
theorem d11 : decode yB 11 = .ok (.iload_n 1, 1) := by decide +kernel
theorem d12 : decode yB 12 = .ok (.caload, 1) := by decide +kernel
theorem d13 : decode yB 13 = .ok (.istore 6, 2) := by decide +kernel
theorem d15 : decode yB 15 = .ok (.iload 6, 2) := by decide +kernel
theorem d17 : decode yB 17 = .ok (.sipush 255, 3) := by decide +kernel
theorem d20 : decode yB 20 = .ok (.if_icmp (.le) 6, 3) := by decide +kernel
theorem d26 : decode yB 26 = .ok (.aload_n 2, 1) := by decide +kernel
theorem d27 : decode yB 27 = .ok (.iload_n 3, 1) := by decide +kernel
theorem d28 : decode yB 28 = .ok (.iload 6, 2) := by decide +kernel
theorem d30 : decode yB 30 = .ok (.i2b, 1) := by decide +kernel
theorem d31 : decode yB 31 = .ok (.bastore, 1) := by decide +kernel
theorem d32 : decode yB 32 = .ok (.iinc 1 1, 3) := by decide +kernel
theorem d35 : decode yB 35 = .ok (.iinc 3 1, 3) := by decide +kernel
theorem d38 : decode yB 38 = .ok (.iinc 5 1, 3) := by decide +kernel
theorem d41 : decode yB 41 = .ok (.goto (-38), 3) := by decide +kernel
theorem d44 : decode yB 44 = .ok (.iload 4, 2) := by decide +kernel
theorem d46 : decode yB 46 = .ok (.ireturn, 1) := by decide +kernel
def site : List Cond := []
def tab : Cond := tabOf yN yB 7 (some .int) site
def P (b : Addr) (A : Cell) (d : Addr) (B : Cell) (o q len : Nat) (args : Array Value) (s : State) : Prop := args = #[.ref b, .int (Int32.ofNat o), .ref d, .int (Int32.ofNat q), .int (Int32.ofNat len)] ∧ Ch b A s ∧ Arr .byte d B s ∧ b ≠ d ∧ o + len ≤ A.slots.size ∧ q + len ≤ B.slots.size ∧ ∀ i, i < len → ¬ 255 < cv A (o + i)
def E (b : Addr) (A : Cell) (d : Addr) (B : Cell) (o q len : Nat) (r : Option Value) (s u : State) : Prop := r = some (.int (Int32.ofNat len)) ∧ ∃ B', Put d B' s u ∧ Laid B B' q (q + len) (fun j => Value.int (lo8 (cv A (o + (j - q)))))
theorem law (l : Launch) (b : Addr) (A : Cell) (d : Addr) (B : Cell) (o q len : Nat) : Law l yN 5 5 0 0 yB 7 (some .int) site (P b A d B o q len) (E b A d B o q len) (copyLocs d q len) 0 0 := by
  refine Law.of_walk (plainFor_of_name (by decide +kernel)) (by decide +kernel) (by decide +kernel) (by decide) (fun _ _ h => by rw [h.1]; rfl) (fun _ U U' hal hh h => ⟨h.1, h.2.1.mv hal hh, h.2.2.1.mv hal hh, h.2.2.2⟩) (fun r U U' V V' h1 hal h2 h => ⟨h.1, h.2.elim fun B' q => ⟨B', q.1.mv h1 h2, q.2⟩⟩) ?_
  intro p e s m args below meth c s₁ X0 hexec hbytes hml hret hlk hnm hown hh0 W hP
  obtain ⟨rfl, hA, hB, hne, l1, l2, hp⟩ := hP
  have c1 : Steps p.tables e below (s₁.setTop (entryFrame m #[.ref b, .int (Int32.ofNat o), .ref d, .int (Int32.ofNat q), .int (Int32.ofNat len)] 7)) (s₁.setTop (mkF m 0 #[.val (.ref b), .val (.int (Int32.ofNat o)), .val (.ref d), .val (.int (Int32.ofNat q)), .val (.int (Int32.ofNat len)), .unset, .unset] [])) := entry rfl
  have hA0 := hA.1.mv X0.warmed.alike hh0
  have hB0 := hB.mv X0.warmed.alike hh0
  have a31 := hA.1.2.2.2
  have c2 : Steps p.tables e below (s₁.setTop (entryFrame m #[.ref b, .int (Int32.ofNat o), .ref d, .int (Int32.ofNat q), .int (Int32.ofNat len)] 7)) (s₁.setTop (mkF m 3 #[.val (.ref b), .val (.int (Int32.ofNat o)), .val (.ref d), .val (.int (Int32.ofNat q)), .val (.int (Int32.ofNat len)), .val (.int 0), .unset] [])) := c1.trans (by
    refine iconstV X0.here hexec rfl 0 (hb hbytes d0) (by decide) ?_
    refine XS.istore X0.here hexec rfl (hb hbytes d1) rfl rfl ?_
    exact Steps.refl _)
  have loop : ∀ (r i : Nat), i + r = len → ∀ (z : Slot), (z = .unset ∨ ∃ w, z = .val w ∧ w.category = 1) → ∀ (Tl : State) (Bk : Cell), Stand p l e { frames := 0, locals := 0, cells := 0, slots := 0 } s m #[.ref b, .int (Int32.ofNat o), .ref d, .int (Int32.ofNat q), .int (Int32.ofNat len)] below meth c Tl ([] ++ copyLocs d q i) 0 0 → Put d Bk s₁ Tl → Laid B Bk q (q + i) (fun j => Value.int (lo8 (cv A (o + (j - q))))) →
      Steps p.tables e below (s₁.setTop (entryFrame m #[.ref b, .int (Int32.ofNat o), .ref d, .int (Int32.ofNat q), .int (Int32.ofNat len)] 7)) (Tl.setTop (mkF m 3 #[.val (.ref b), .val (.int (Int32.ofNat (o + i))), .val (.ref d), .val (.int (Int32.ofNat (q + i))), .val (.int (Int32.ofNat len)), .val (.int (Int32.ofNat i)), z] [])) → ∃ (T' : State) (B' : Cell) (z' : Slot), Stand p l e { frames := 0, locals := 0, cells := 0, slots := 0 } s m #[.ref b, .int (Int32.ofNat o), .ref d, .int (Int32.ofNat q), .int (Int32.ofNat len)] below meth c T' ([] ++ copyLocs d q len) 0 0 ∧ Put d B' s₁ T' ∧ Laid B B' q (q + len) (fun j => Value.int (lo8 (cv A (o + (j - q))))) ∧
      Steps p.tables e below (s₁.setTop (entryFrame m #[.ref b, .int (Int32.ofNat o), .ref d, .int (Int32.ofNat q), .int (Int32.ofNat len)] 7)) (T'.setTop (mkF m 3 #[.val (.ref b), .val (.int (Int32.ofNat (o + len))), .val (.ref d), .val (.int (Int32.ofNat (q + len))), .val (.int (Int32.ofNat len)), .val (.int (Int32.ofNat len)), z'] [])) := by
    intro r
    induction r with
    | zero =>
      intro i hi z hz Tl Bk Xl pl fl cl
      have hil : i = len := by omega
      rw [hil] at Xl fl cl
      exact ⟨Tl, Bk, z, Xl, pl, fl, cl⟩
    | succ r ih =>
      intro i hi z hz Tl Bk Xl pl fl cl
      have all := X0.warmed.alike.symm.trans Xl.warmed.alike
      have hAl := hA0.keep all (pl.other hne hA0.1)
      have hBk := hB0.like all pl.1 fl.1 fl.2.1 fl.2.2.1
      have hlt : q + i < Bk.slots.size := by rw [fl.2.2.1]; omega
      have c3 : Steps p.tables e below (s₁.setTop (entryFrame m #[.ref b, .int (Int32.ofNat o), .ref d, .int (Int32.ofNat q), .int (Int32.ofNat len)] 7)) (Tl.setTop (mkF m 12 #[.val (.ref b), .val (.int (Int32.ofNat (o + i))), .val (.ref d), .val (.int (Int32.ofNat (q + i))), .val (.int (Int32.ofNat len)), .val (.int (Int32.ofNat i)), z] [.int (Int32.ofNat (o + i)), .ref b])) := cl.trans (by
        refine XS.iload Xl.here hexec rfl (hb hbytes d3) rfl ?_
        refine XS.iload Xl.here hexec rfl (hb hbytes d5) rfl ?_
        refine XS.icmpNo Xl.here hexec rfl (hb hbytes d7) rfl (ii_ge_f (lt32 (by omega) (by omega))) ?_
        refine XS.aloadN Xl.here hexec rfl (hb hbytes d10) rfl rfl ?_
        refine XS.iloadN Xl.here hexec rfl (hb hbytes d11) rfl ?_
        exact Steps.refl _)
      have c4 : Steps p.tables e below (s₁.setTop (entryFrame m #[.ref b, .int (Int32.ofNat o), .ref d, .int (Int32.ofNat q), .int (Int32.ofNat len)] 7)) (Tl.setTop (mkF m 13 #[.val (.ref b), .val (.int (Int32.ofNat (o + i))), .val (.ref d), .val (.int (Int32.ofNat (q + i))), .val (.int (Int32.ofNat len)), .val (.int (Int32.ofNat i)), z] [.int (cv A (o + i))])) := c3.trans (by
        refine Xl.aget hexec hAl rfl (hA.get (i := o + i) (by omega)) rfl rfl (hb hbytes d12) ?_
        exact Steps.refl _)
      have c5 : Steps p.tables e below (s₁.setTop (entryFrame m #[.ref b, .int (Int32.ofNat o), .ref d, .int (Int32.ofNat q), .int (Int32.ofNat len)] 7)) (Tl.setTop (mkF m 15 #[.val (.ref b), .val (.int (Int32.ofNat (o + i))), .val (.ref d), .val (.int (Int32.ofNat (q + i))), .val (.int (Int32.ofNat len)), .val (.int (Int32.ofNat i)), .val (.int (cv A (o + i)))] [])) := c4.trans (by
        refine XS.istoreS Xl.here hexec rfl (hb hbytes d13) rfl rfl hz ?_
        exact Steps.refl _)
      have c6 : Steps p.tables e below (s₁.setTop (entryFrame m #[.ref b, .int (Int32.ofNat o), .ref d, .int (Int32.ofNat q), .int (Int32.ofNat len)] 7)) (Tl.setTop (mkF m 31 #[.val (.ref b), .val (.int (Int32.ofNat (o + i))), .val (.ref d), .val (.int (Int32.ofNat (q + i))), .val (.int (Int32.ofNat len)), .val (.int (Int32.ofNat i)), .val (.int (cv A (o + i)))] [.int (lo8 (cv A (o + i))), .int (Int32.ofNat (q + i)), .ref d])) := c5.trans (by
        refine XS.iload Xl.here hexec rfl (hb hbytes d15) rfl ?_
        refine sipushV Xl.here hexec rfl 255 (hb hbytes d17) (by decide) ?_
        refine XS.icmpYes Xl.here hexec rfl (pc0 := 20) rfl (hb hbytes d20) rfl (ii_le_t (hp i (by omega))) (by decide) rfl ?_
        refine XS.aloadN Xl.here hexec rfl (hb hbytes d26) rfl rfl ?_
        refine XS.iloadN Xl.here hexec rfl (hb hbytes d27) rfl ?_
        refine XS.iload Xl.here hexec rfl (hb hbytes d28) rfl ?_
        refine i2b Xl.here hexec rfl (hb hbytes d30) rfl ?_
        exact Steps.refl _)
      obtain ⟨T7, X7, p7, st7⟩ := Xl.aput hexec hBk rfl hlt rfl (fits_lo8 (cv A (o + i))) (g := (mkF m 31 #[.val (.ref b), .val (.int (Int32.ofNat (o + i))), .val (.ref d), .val (.int (Int32.ofNat (q + i))), .val (.int (Int32.ofNat len)), .val (.int (Int32.ofNat i)), .val (.int (cv A (o + i)))] [.int (lo8 (cv A (o + i))), .int (Int32.ofNat (q + i)), .ref d])) rfl (rest := []) rfl (hb hbytes d31)
      have c8 : Steps p.tables e below (s₁.setTop (entryFrame m #[.ref b, .int (Int32.ofNat o), .ref d, .int (Int32.ofNat q), .int (Int32.ofNat len)] 7)) (T7.setTop (mkF m 32 #[.val (.ref b), .val (.int (Int32.ofNat (o + i))), .val (.ref d), .val (.int (Int32.ofNat (q + i))), .val (.int (Int32.ofNat len)), .val (.int (Int32.ofNat i)), .val (.int (cv A (o + i)))] [])) := c6.trans (st7 _ (Steps.refl _))
      have c9 : Steps p.tables e below (s₁.setTop (entryFrame m #[.ref b, .int (Int32.ofNat o), .ref d, .int (Int32.ofNat q), .int (Int32.ofNat len)] 7)) (T7.setTop (mkF m 3 #[.val (.ref b), .val (.int (Int32.ofNat (o + i) + 1)), .val (.ref d), .val (.int (Int32.ofNat (q + i) + 1)), .val (.int (Int32.ofNat len)), .val (.int (Int32.ofNat i + 1)), .val (.int (cv A (o + i)))] [])) := c8.trans (by
        refine iincV X7.here hexec rfl 1 (hb hbytes d32) (by decide) rfl rfl ?_
        refine iincV X7.here hexec rfl 1 (hb hbytes d35) (by decide) rfl rfl ?_
        refine iincV X7.here hexec rfl 1 (hb hbytes d38) (by decide) rfl rfl ?_
        refine XS.goto X7.here hexec rfl (pc0 := 41) rfl (hb hbytes d41) (by decide) rfl ?_
        exact Steps.refl _)
      have c10 : Steps p.tables e below (s₁.setTop (entryFrame m #[.ref b, .int (Int32.ofNat o), .ref d, .int (Int32.ofNat q), .int (Int32.ofNat len)] 7)) (T7.setTop (mkF m 3 #[.val (.ref b), .val (.int (Int32.ofNat (o + (i + 1)))), .val (.ref d), .val (.int (Int32.ofNat (q + (i + 1)))), .val (.int (Int32.ofNat len)), .val (.int (Int32.ofNat (i + 1))), .val (.int (cv A (o + i)))] [])) := by
        have := c9
        rw [succ32, succ32, succ32] at this
        exact this
      exact ih (i + 1) (by omega) _ (Or.inr ⟨_, rfl, rfl⟩) T7 _ (by rw [copyLocs_step, ← List.append_assoc]; exact X7) (pl.trans p7) (fl.step (by omega) hlt (by simp)) c10
  obtain ⟨T9, B9, z9, X9, p9, f9, g9⟩ := loop len 0 (by omega) .unset (Or.inl rfl) s₁ B (by simpa [copyLocs] using X0) ⟨hB0.1, fun _ _ => rfl, rfl⟩ (Laid.zero _ _ _) c2
  have c11 : Steps p.tables e below (s₁.setTop (entryFrame m #[.ref b, .int (Int32.ofNat o), .ref d, .int (Int32.ofNat q), .int (Int32.ofNat len)] 7)) (T9.setTop (mkF m 46 #[.val (.ref b), .val (.int (Int32.ofNat (o + len))), .val (.ref d), .val (.int (Int32.ofNat (q + len))), .val (.int (Int32.ofNat len)), .val (.int (Int32.ofNat len)), z9] [.int (Int32.ofNat len)])) := g9.trans (by
    refine XS.iload X9.here hexec rfl (hb hbytes d3) rfl ?_
    refine XS.iload X9.here hexec rfl (hb hbytes d5) rfl ?_
    refine XS.icmpYes X9.here hexec rfl (pc0 := 7) rfl (hb hbytes d7) rfl (ii_ge_t (nlt32 (by omega) (Nat.le_refl _))) (by decide) rfl ?_
    refine XS.iload X9.here hexec rfl (hb hbytes d44) rfl ?_
    exact Steps.refl _)
  exact ⟨T9, some (.int (Int32.ofNat len)), _, _, _, X9, by simp, rfl, rfl, (fun h => by cases h), ⟨rfl, B9, p9.from hh0, f9⟩, fun fs hl => c11.trans (X9.ireturnOut hexec hret rfl (Or.inl rfl) (hb hbytes d46) hl)⟩
end Cmp5
namespace Cmp3
def yN : MethodName := ⟨"java/lang/StringUTF16", "compress", "([CII)[B"⟩
abbrev yB : ByteArray := jdk_52_method_16_code
theorem d0 : decode yB 0 = .ok (.iload_n 2, 1) := by decide +kernel
theorem d1 : decode yB 1 = .ok (.newarray .byte, 2) := by decide +kernel
theorem d3 : decode yB 3 = .ok (.astore_n 3, 1) := by decide +kernel
theorem d4 : decode yB 4 = .ok (.aload_n 0, 1) := by decide +kernel
theorem d5 : decode yB 5 = .ok (.iload_n 1, 1) := by decide +kernel
theorem d6 : decode yB 6 = .ok (.aload_n 3, 1) := by decide +kernel
theorem d7 : decode yB 7 = .ok (.iconst 0, 1) := by decide +kernel
theorem d8 : decode yB 8 = .ok (.iload_n 2, 1) := by decide +kernel
theorem d9 : decode yB 9 = .ok (.invokestatic 115, 3) := by decide +kernel
theorem d12 : decode yB 12 = .ok (.istore 4, 2) := by decide +kernel
theorem d14 : decode yB 14 = .ok (.iload 4, 2) := by decide +kernel
theorem d16 : decode yB 16 = .ok (.iload_n 2, 1) := by decide +kernel
theorem d17 : decode yB 17 = .ok (.if_icmp (.eq) 40, 3) := by decide +kernel
theorem d57 : decode yB 57 = .ok (.aload_n 3, 1) := by decide +kernel
theorem d58 : decode yB 58 = .ok (.areturn, 1) := by decide +kernel
def site : List Cond := [.arrayClass .byte, Cmp5.tab] ++ staticW U16 115 Cmp5.yN
def tab : Cond := tabOf yN yB 6 (some (.array .byte)) site
def P (b : Addr) (A : Cell) (o len : Nat) (args : Array Value) (s : State) : Prop := args = #[.ref b, .int (Int32.ofNat o), .int (Int32.ofNat len)] ∧ Ch b A s ∧ o + len ≤ A.slots.size ∧ len ≤ 536870912 ∧ ∀ i, i < len → ¬ 255 < cv A (o + i)
def E (b : Addr) (A : Cell) (o len : Nat) (r : Option Value) (s u : State) : Prop := NewArr .byte "[B" len (fun j => .int (lo8 (cv A (o + j)))) r s u ∧ u.heap.size = s.heap.size + 1
theorem law (l : Launch) (b : Addr) (A : Cell) (o len : Nat) : Law l yN 3 3 1 18 yB 6 (some (.array .byte)) site (P b A o len) (E b A o len) [] 1 len := by
  refine Law.of_walk (plainFor_of_name (by decide +kernel)) (by decide +kernel) (by decide +kernel) (by decide) (fun _ _ h => by rw [h.1]; rfl) (fun _ U U' hal hh h => ⟨h.1, h.2.1.mv hal hh, h.2.2⟩) (fun r U U' V V' h1 hal h2 h => ⟨NewArr.mv r U U' V V' h1 hal h2 h.1, by rw [h1, h2]; exact h.2⟩) ?_
  intro p e s m args below meth c s₁ X0 hexec hbytes hml hret hlk hnm hown hh0 W hP
  obtain ⟨rfl, hA, l1, l2, hp⟩ := hP
  have a31 := hA.1.2.2.2
  have c1 : Steps p.tables e below (s₁.setTop (entryFrame m #[.ref b, .int (Int32.ofNat o), .int (Int32.ofNat len)] 6)) (s₁.setTop (mkF m 0 #[.val (.ref b), .val (.int (Int32.ofNat o)), .val (.int (Int32.ofNat len)), .unset, .unset, .unset] [])) := entry rfl
  have c2 : Steps p.tables e below (s₁.setTop (entryFrame m #[.ref b, .int (Int32.ofNat o), .int (Int32.ofNat len)] 6)) (s₁.setTop (mkF m 1 #[.val (.ref b), .val (.int (Int32.ofNat o)), .val (.int (Int32.ofNat len)), .unset, .unset, .unset] [.int (Int32.ofNat len)])) := c1.trans (by
    refine XS.iloadN X0.here hexec rfl (hb hbytes d0) rfl ?_
    exact Steps.refl _)
  obtain ⟨T3, B3, X3, ba3, bs3, bv3, bh3, bf3, st3⟩ := X0.anew hexec (atype := .byte) (wk W (.arrayClass .byte)) rfl (by show len * 1 ≤ _; omega) (by omega) (g := (mkF m 1 #[.val (.ref b), .val (.int (Int32.ofNat o)), .val (.int (Int32.ofNat len)), .unset, .unset, .unset] [.int (Int32.ofNat len)])) rfl (hb hbytes d1) (rest := []) rfl (Nat.le_refl _) (by show 0 + len ≤ len; omega)
  rw [hh0] at ba3 st3
  have kp3 : XT.Kept s T3 := (XT.Kept.of_eq hh0).push bh3
  have hA3 := hA.keep X3.warmed.alike (kp3 _ _ hA.1.1)
  have hne : b ≠ s.heap.size := hA.1.ne
  have c4 : Steps p.tables e below (s₁.setTop (entryFrame m #[.ref b, .int (Int32.ofNat o), .int (Int32.ofNat len)] 6)) (T3.setTop (mkF m 3 #[.val (.ref b), .val (.int (Int32.ofNat o)), .val (.int (Int32.ofNat len)), .unset, .unset, .unset] [.ref s.heap.size])) := c2.trans (st3 _ (Steps.refl _))
  have c5 : Steps p.tables e below (s₁.setTop (entryFrame m #[.ref b, .int (Int32.ofNat o), .int (Int32.ofNat len)] 6)) (T3.setTop (mkF m 9 #[.val (.ref b), .val (.int (Int32.ofNat o)), .val (.int (Int32.ofNat len)), .val (.ref s.heap.size), .unset, .unset] [.int (Int32.ofNat len), .int 0, .ref s.heap.size, .int (Int32.ofNat o), .ref b])) := c4.trans (by
    refine XS.astoreN X3.here hexec rfl (hb hbytes d3) rfl rfl rfl ?_
    refine XS.aloadN X3.here hexec rfl (hb hbytes d4) rfl rfl ?_
    refine XS.iloadN X3.here hexec rfl (hb hbytes d5) rfl ?_
    refine XS.aloadN X3.here hexec rfl (hb hbytes d6) rfl rfl ?_
    refine iconstV X3.here hexec rfl 0 (hb hbytes d7) (by decide) ?_
    refine XS.iloadN X3.here hexec rfl (hb hbytes d8) rfl ?_
    exact Steps.refl _)
  obtain ⟨v6, T6, X6, E6, g6⟩ := X3.callS hexec (Cmp5.law l b A s.heap.size B3 o 0 len) hown (wks W (staticW U16 115 Cmp5.yN)) (wk W Cmp5.tab) (W := 0) (Nat.le_of_ble_eq_true rfl) (Nat.le_of_ble_eq_true rfl) (Nat.le_refl _) (by show 0 + len + 0 ≤ len; omega) (g := (mkF m 9 #[.val (.ref b), .val (.int (Int32.ofNat o)), .val (.int (Int32.ofNat len)), .val (.ref s.heap.size), .unset, .unset] [.int (Int32.ofNat len), .int (Int32.ofNat 0), .ref s.heap.size, .int (Int32.ofNat o), .ref b])) rfl (by rw [hml]; rfl) c5 (argsL := [.ref b, .int (Int32.ofNat o), .ref s.heap.size, .int (Int32.ofNat 0), .int (Int32.ofNat len)]) (rest := []) rfl rfl (by show 2 * 0 + 0 ≤ _; decide) (hb hbytes d9) (⟨rfl, hA3, ba3, hne, l1, by rw [bs3]; simp, hp⟩)
  obtain ⟨rfl, B6, p6, f6⟩ := E6
  have c7 : Steps p.tables e below (s₁.setTop (entryFrame m #[.ref b, .int (Int32.ofNat o), .int (Int32.ofNat len)] 6)) (T6.setTop (mkF m 12 #[.val (.ref b), .val (.int (Int32.ofNat o)), .val (.int (Int32.ofNat len)), .val (.ref s.heap.size), .unset, .unset] [.int (Int32.ofNat len)])) := g6
  have c8 : Steps p.tables e below (s₁.setTop (entryFrame m #[.ref b, .int (Int32.ofNat o), .int (Int32.ofNat len)] 6)) (T6.setTop (mkF m 58 #[.val (.ref b), .val (.int (Int32.ofNat o)), .val (.int (Int32.ofNat len)), .val (.ref s.heap.size), .val (.int (Int32.ofNat len)), .unset] [.ref s.heap.size])) := c7.trans (by
    refine XS.istore X6.here hexec rfl (hb hbytes d12) rfl rfl ?_
    refine XS.iload X6.here hexec rfl (hb hbytes d14) rfl ?_
    refine XS.iloadN X6.here hexec rfl (hb hbytes d16) rfl ?_
    refine XS.icmpYes X6.here hexec rfl (pc0 := 17) rfl (hb hbytes d17) rfl (ii_eq_t rfl) (by decide) rfl ?_
    refine XS.aloadN X6.here hexec rfl (hb hbytes d57) rfl rfl ?_
    exact Steps.refl _)
  have X8 := X6.wide (L' := []) (cells' := 1) (slots' := len) (fun x hx hlt => by
    simp only [List.nil_append, copyLocs, List.mem_map, List.mem_range] at hx
    obtain ⟨i, -, rfl⟩ := hx
    exact absurd hlt (Nat.lt_irrefl _)) (Nat.le_refl _) (by omega)
  exact ⟨T6, some (.ref s.heap.size), _, _, _, X8, rfl, rfl, rfl, (fun h => by cases h), ⟨⟨rfl, B6, ba3.like (X3.warmed.alike.symm.trans X6.warmed.alike) p6.1 f6.1 f6.2.1 f6.2.2.1, f6.2.1.trans bv3, by rw [X6.warmed.alike.findClass, f6.1]; exact bf3, by rw [f6.2.2.1, bs3]; simp, fun j hj => by rw [f6.2.2.2 j, if_pos (by omega)]; rfl, kp3.put p6 (Nat.le_refl _)⟩, by rw [p6.2.2, bh3, hh0]; simp⟩, fun fs hl => c8.trans (X8.areturnOut hexec rfl hret rfl (hb hbytes d58) hl)⟩
end Cmp3
namespace CodL
def yN : MethodName := ⟨"java/lang/StringUTF16", "coderFromArrayLen", "([BI)B"⟩
abbrev yB : ByteArray := jdk_52_method_15_code
theorem d0 : decode yB 0 = .ok (.iload_n 1, 1) := by decide +kernel
theorem d1 : decode yB 1 = .ok (.aload_n 0, 1) := by decide +kernel
theorem d2 : decode yB 2 = .ok (.arraylength, 1) := by decide +kernel
theorem d3 : decode yB 3 = .ok (.isub, 1) := by decide +kernel
theorem d4 : decode yB 4 = .ok (.bipush 31, 2) := by decide +kernel
theorem d6 : decode yB 6 = .ok (.iushr, 1) := by decide +kernel
theorem d7 : decode yB 7 = .ok (.i2b, 1) := by decide +kernel
theorem d8 : decode yB 8 = .ok (.ireturn, 1) := by decide +kernel
def site : List Cond := []
def tab : Cond := tabOf yN yB 2 (some .byte) site
def P (d : Addr) (B : Cell) (args : Array Value) (s : State) : Prop := args = #[.ref d, .int (Int32.ofNat B.slots.size)] ∧ Arr .byte d B s
def E (r : Option Value) (s u : State) : Prop := XT.PureE (some (.int 0)) r s u
theorem law (l : Launch) (d : Addr) (B : Cell) : Law l yN 2 2 0 0 yB 2 (some .byte) site (P d B) E [] 0 0 := by
  refine Law.of_walk (plainFor_of_name (by decide +kernel)) (by decide +kernel) (by decide +kernel) (by decide) (fun _ _ h => by rw [h.1]; rfl) (fun _ U U' hal hh h => ⟨h.1, h.2.mv hal hh⟩) (fun r U U' V V' h1 hal h2 h => XT.PureE.mv r U U' V V' h1 hal h2 h) ?_
  intro p e s m args below meth c s₁ X0 hexec hbytes hml hret hlk hnm hown hh0 W hP
  obtain ⟨rfl, hB⟩ := hP
  have hB0 := hB.mv X0.warmed.alike hh0
  have c1 : Steps p.tables e below (s₁.setTop (entryFrame m #[.ref d, .int (Int32.ofNat B.slots.size)] 2)) (s₁.setTop (mkF m 0 #[.val (.ref d), .val (.int (Int32.ofNat B.slots.size))] [])) := entry rfl
  have c2 : Steps p.tables e below (s₁.setTop (entryFrame m #[.ref d, .int (Int32.ofNat B.slots.size)] 2)) (s₁.setTop (mkF m 2 #[.val (.ref d), .val (.int (Int32.ofNat B.slots.size))] [.ref d, .int (Int32.ofNat B.slots.size)])) := c1.trans (by
    refine XS.iloadN X0.here hexec rfl (hb hbytes d0) rfl ?_
    refine XS.aloadN X0.here hexec rfl (hb hbytes d1) rfl rfl ?_
    exact Steps.refl _)
  have c3 : Steps p.tables e below (s₁.setTop (entryFrame m #[.ref d, .int (Int32.ofNat B.slots.size)] 2)) (s₁.setTop (mkF m 8 #[.val (.ref d), .val (.int (Int32.ofNat B.slots.size))] [.int (lo8 (ushr (Int32.ofNat B.slots.size - Int32.ofNat B.slots.size) 31))])) := c2.trans (by
    refine X0.alen hexec hB0 rfl rfl (hb hbytes d2) ?_
    refine XS.isub X0.here hexec rfl (hb hbytes d3) rfl ?_
    refine bipushV X0.here hexec rfl 31 (hb hbytes d4) (by decide) ?_
    refine iushr X0.here hexec rfl (hb hbytes d6) rfl ?_
    refine i2b X0.here hexec rfl (hb hbytes d7) rfl ?_
    exact Steps.refl _)
  have e0 : lo8 (ushr (Int32.ofNat B.slots.size - Int32.ofNat B.slots.size) 31) = 0 := by rw [Int32.sub_self]; decide
  rw [e0] at c3
  exact ⟨s₁, some (.int 0), _, _, _, X0, rfl, rfl, rfl, (fun h => by cases h), ⟨rfl, hh0⟩, fun fs hl => c3.trans (X0.ireturnOut hexec hret rfl (Or.inr (Or.inr (Or.inl rfl))) (hb hbytes d8) hl)⟩
end CodL
def Got (a : Addr) (D : Cell) (fV fC : Field) (A : Cell) (o len : Nat) (r : Option Value) (s u : State) : Prop := r = none ∧ ∃ D' V : Cell, Blank "java/lang/String" a D' u ∧ Same D D' [fV.slot, fC.slot] ∧ D'.slots[fV.slot]? = some (.ref s.heap.size) ∧ D'.slots[fC.slot]? = some (.int 0) ∧ Arr .byte s.heap.size V u ∧ V.vm = .none ∧ u.vm.findClass "[B" = some V.cls ∧ V.slots.size = len ∧ (∀ j, j < len → V.slots[j]? = some (.int (lo8 (cv A (o + j))))) ∧ (∀ (y : Addr) (c : Cell), y ≠ a → s.heap[y]? = some c → u.heap[y]? = some c) ∧ u.heap.size = s.heap.size + 1
theorem Got.mv {a : Addr} {D A : Cell} {fV fC : Field} {o len : Nat} : ∀ r (U U' V V' : State), U'.heap = U.heap → V.vm.Alike V'.vm → V'.heap = V.heap → Got a D fV fC A o len r U V → Got a D fV fC A o len r U' V' :=
  fun r U U' V V' h1 hal h2 ⟨e0, D', X, a1, a2, a3, a4, a5, a6, a7, a8, a9, a10, a11⟩ => ⟨e0, D', X, a1.mv hal h2, a2, by rw [h1]; exact a3, a4, by rw [h1]; exact a5.mv hal h2, a6, by rw [hal.findClass]; exact a7, a8, a9, by rw [h1, h2]; exact a10, by rw [h1, h2]; exact a11⟩
namespace New4
def yN : MethodName := ⟨"java/lang/String", "<init>", "([CIILjava/lang/Void;)V"⟩
abbrev yB : ByteArray := jdk_42_method_149_code
theorem d0 : decode yB 0 = .ok (.aload_n 0, 1) := by decide +kernel
theorem d1 : decode yB 1 = .ok (.invokespecial 1, 3) := by decide +kernel
theorem d4 : decode yB 4 = .ok (.iload_n 3, 1) := by decide +kernel
theorem d5 : decode yB 5 = .ok (.ifCond (.ne) 22, 3) := by decide +kernel
theorem d27 : decode yB 27 = .ok (.getstatic 38, 3) := by decide +kernel
theorem d30 : decode yB 30 = .ok (.ifCond (.eq) 28, 3) := by decide +kernel
theorem d33 : decode yB 33 = .ok (.aload_n 1, 1) := by decide +kernel
theorem d34 : decode yB 34 = .ok (.iload_n 2, 1) := by decide +kernel
theorem d35 : decode yB 35 = .ok (.iload_n 3, 1) := by decide +kernel
theorem d36 : decode yB 36 = .ok (.invokestatic 177, 3) := by decide +kernel
theorem d39 : decode yB 39 = .ok (.astore 5, 2) := by decide +kernel
theorem d41 : decode yB 41 = .ok (.aload_n 0, 1) := by decide +kernel
theorem d42 : decode yB 42 = .ok (.aload 5, 2) := by decide +kernel
theorem d44 : decode yB 44 = .ok (.iload_n 3, 1) := by decide +kernel
theorem d45 : decode yB 45 = .ok (.invokestatic 47, 3) := by decide +kernel
theorem d48 : decode yB 48 = .ok (.putfield 15, 3) := by decide +kernel
theorem d51 : decode yB 51 = .ok (.aload_n 0, 1) := by decide +kernel
theorem d52 : decode yB 52 = .ok (.aload 5, 2) := by decide +kernel
theorem d54 : decode yB 54 = .ok (.putfield 9, 3) := by decide +kernel
theorem d57 : decode yB 57 = .ok (.return_, 1) := by decide +kernel
def site : List Cond := [.fieldLink "java/lang/String" 38 "java/lang/String" "COMPACT_STRINGS" "Z", Cmp3.tab, CodL.tab, .laysFinal "java/lang/String" "java/lang/String" "value" "[B", .fieldLink "java/lang/String" 9 "java/lang/String" "value" "[B", .laysFinal "java/lang/String" "java/lang/String" "coder" "B", .fieldLink "java/lang/String" 15 "java/lang/String" "coder" "B"] ++ objW "java/lang/String" 1 ++ staticW "java/lang/String" 177 Cmp3.yN ++ staticW "java/lang/String" 47 CodL.yN
def tab : Cond := tabOf yN yB 6 none site
def P (a : Addr) (D : Cell) (fV fC : Field) (b : Addr) (A : Cell) (z : Int32) (o len : Nat) (args : Array Value) (s : State) : Prop := args = #[.ref a, .ref b, .int (Int32.ofNat o), .int (Int32.ofNat len), .null] ∧ Blank "java/lang/String" a D s ∧ Found "java/lang/String" "value" "[B" fV s ∧ Found "java/lang/String" "coder" "B" fC s ∧ Ch b A s ∧ StaticIs s "java/lang/String" "COMPACT_STRINGS" "Z" (.int z) ∧ ¬ z = 0 ∧ 0 < len ∧ o + len ≤ A.slots.size ∧ len ≤ 536870912 ∧ ∀ i, i < len → ¬ 255 < cv A (o + i)
def E (a : Addr) (D : Cell) (fV fC : Field) (A : Cell) (o len : Nat) (r : Option Value) (s u : State) : Prop := Got a D fV fC A o len r s u
theorem law (l : Launch) (a : Addr) (D : Cell) (fV fC : Field) (b : Addr) (A : Cell) (z : Int32) (o len : Nat) : Law l yN 5 4 2 35 yB 6 none site (P a D fV fC b A z o len) (E a D fV fC A o len) [⟨a, fC.slot⟩, ⟨a, fV.slot⟩] 1 len := by
  refine Law.of_walk (plainFor_of_name (by decide +kernel)) (by decide +kernel) (by decide +kernel) (by decide) (fun _ _ h => by rw [h.1]; rfl) (fun _ U U' hal hh h => ⟨h.1, h.2.1.mv hal hh, h.2.2.1.al hal, h.2.2.2.1.al hal, h.2.2.2.2.1.mv hal hh, h.2.2.2.2.2.1.there hal hh, h.2.2.2.2.2.2⟩) (fun r U U' V V' h1 hal h2 h => Got.mv r U U' V V' h1 hal h2 h) ?_
  intro p e s m args below meth c s₁ X0 hexec hbytes hml hret hlk hnm hown hh0 W hP
  obtain ⟨rfl, hB, f1, f2, hA, s1, hz, l0, l1, l2, hp⟩ := hP
  have a31 := hA.1.2.2.2
  have c1 : Steps p.tables e below (s₁.setTop (entryFrame m #[.ref a, .ref b, .int (Int32.ofNat o), .int (Int32.ofNat len), .null] 6)) (s₁.setTop (mkF m 0 #[.val (.ref a), .val (.ref b), .val (.int (Int32.ofNat o)), .val (.int (Int32.ofNat len)), .val .null, .unset] [])) := entry rfl
  have c2 : Steps p.tables e below (s₁.setTop (entryFrame m #[.ref a, .ref b, .int (Int32.ofNat o), .int (Int32.ofNat len), .null] 6)) (s₁.setTop (mkF m 1 #[.val (.ref a), .val (.ref b), .val (.int (Int32.ofNat o)), .val (.int (Int32.ofNat len)), .val .null, .unset] [.ref a])) := c1.trans (by
    refine XS.aloadN X0.here hexec rfl (hb hbytes d0) rfl rfl ?_
    exact Steps.refl _)
  obtain ⟨T3, X3, q3, st3⟩ := X0.oinit hexec hown (wks W (objW "java/lang/String" 1)) (g := (mkF m 1 #[.val (.ref a), .val (.ref b), .val (.int (Int32.ofNat o)), .val (.int (Int32.ofNat len)), .val .null, .unset] [.ref a])) rfl (by rw [hml]; rfl) (rest := []) rfl (hb hbytes d1) (W := 0) (by show 2 * 0 + 0 ≤ _; decide) (Nat.le_of_ble_eq_true rfl) (Nat.le_of_ble_eq_true rfl)
  have hh3 := q3.trans hh0
  have c4 : Steps p.tables e below (s₁.setTop (entryFrame m #[.ref a, .ref b, .int (Int32.ofNat o), .int (Int32.ofNat len), .null] 6)) (T3.setTop (mkF m 27 #[.val (.ref a), .val (.ref b), .val (.int (Int32.ofNat o)), .val (.int (Int32.ofNat len)), .val .null, .unset] [])) := (c2.trans (st3 _ (Steps.refl _))).trans (by
    refine XS.iloadN X3.here hexec rfl (hb hbytes d4) rfl ?_
    refine XS.ifYes X3.here hexec rfl (pc0 := 5) rfl (hb hbytes d5) rfl (i0_ne_t (nz32 (by omega) l0)) (by decide) rfl ?_
    exact Steps.refl _)
  obtain ⟨T5, X5, q5, st5⟩ := X3.sget hexec hown (wk W (.fieldLink "java/lang/String" 38 "java/lang/String" "COMPACT_STRINGS" "Z")) s1 (fun _ _ h => by rw [hh3]; exact h) (g := (mkF m 27 #[.val (.ref a), .val (.ref b), .val (.int (Int32.ofNat o)), .val (.int (Int32.ofNat len)), .val .null, .unset] [])) rfl (hb hbytes d27)
  have hh5 := q5.trans hh3
  have c6 : Steps p.tables e below (s₁.setTop (entryFrame m #[.ref a, .ref b, .int (Int32.ofNat o), .int (Int32.ofNat len), .null] 6)) (T5.setTop (mkF m 30 #[.val (.ref a), .val (.ref b), .val (.int (Int32.ofNat o)), .val (.int (Int32.ofNat len)), .val .null, .unset] [.int z])) := c4.trans (st5 _ (Steps.refl _))
  have c7 : Steps p.tables e below (s₁.setTop (entryFrame m #[.ref a, .ref b, .int (Int32.ofNat o), .int (Int32.ofNat len), .null] 6)) (T5.setTop (mkF m 36 #[.val (.ref a), .val (.ref b), .val (.int (Int32.ofNat o)), .val (.int (Int32.ofNat len)), .val .null, .unset] [.int (Int32.ofNat len), .int (Int32.ofNat o), .ref b])) := c6.trans (by
    refine XS.ifNo X5.here hexec rfl (hb hbytes d30) rfl (i0_eq_f hz) ?_
    refine XS.aloadN X5.here hexec rfl (hb hbytes d33) rfl rfl ?_
    refine XS.iloadN X5.here hexec rfl (hb hbytes d34) rfl ?_
    refine XS.iloadN X5.here hexec rfl (hb hbytes d35) rfl ?_
    exact Steps.refl _)
  obtain ⟨v8, T8, X8, E8, g8⟩ := X5.callS hexec (Cmp3.law l b A o len) hown (wks W (staticW "java/lang/String" 177 Cmp3.yN)) (wk W Cmp3.tab) (W := 0) (Nat.le_of_ble_eq_true rfl) (Nat.le_of_ble_eq_true rfl) (Nat.le_refl _) (by show 0 + len ≤ len; omega) (g := (mkF m 36 #[.val (.ref a), .val (.ref b), .val (.int (Int32.ofNat o)), .val (.int (Int32.ofNat len)), .val .null, .unset] [.int (Int32.ofNat len), .int (Int32.ofNat o), .ref b])) rfl (by rw [hml]; rfl) c7 (argsL := [.ref b, .int (Int32.ofNat o), .int (Int32.ofNat len)]) (rest := []) rfl rfl (by show 2 * 0 + 0 ≤ _; decide) (hb hbytes d36) (⟨rfl, hA.mv X5.warmed.alike hh5, l1, l2, hp⟩)
  obtain ⟨e8, z8⟩ := E8
  obtain ⟨rfl, N, n1, n2, n3, n4, n5, n6⟩ := NewArr.mv _ T5 s _ _ hh5.symm (Vm.Alike.refl _) rfl e8
  rw [hh5] at z8
  have hB1 := hB.keep X8.warmed.alike (n6 _ _ hB.1)
  have hne : s.heap.size ≠ a := (Nat.ne_of_lt (Array.getElem?_eq_some_iff.mp hB.1).1).symm
  have c9 : Steps p.tables e below (s₁.setTop (entryFrame m #[.ref a, .ref b, .int (Int32.ofNat o), .int (Int32.ofNat len), .null] 6)) (T8.setTop (mkF m 39 #[.val (.ref a), .val (.ref b), .val (.int (Int32.ofNat o)), .val (.int (Int32.ofNat len)), .val .null, .unset] [.ref s.heap.size])) := g8
  have c10 : Steps p.tables e below (s₁.setTop (entryFrame m #[.ref a, .ref b, .int (Int32.ofNat o), .int (Int32.ofNat len), .null] 6)) (T8.setTop (mkF m 45 #[.val (.ref a), .val (.ref b), .val (.int (Int32.ofNat o)), .val (.int (Int32.ofNat len)), .val .null, .val (.ref s.heap.size)] [.int (Int32.ofNat N.slots.size), .ref s.heap.size, .ref a])) := by
    have hc : Steps p.tables e below (s₁.setTop (entryFrame m #[.ref a, .ref b, .int (Int32.ofNat o), .int (Int32.ofNat len), .null] 6)) (T8.setTop (mkF m 45 #[.val (.ref a), .val (.ref b), .val (.int (Int32.ofNat o)), .val (.int (Int32.ofNat len)), .val .null, .val (.ref s.heap.size)] [.int (Int32.ofNat len), .ref s.heap.size, .ref a])) := c9.trans (by
      refine XS.astore X8.here hexec rfl (hb hbytes d39) rfl rfl rfl ?_
      refine XS.aloadN X8.here hexec rfl (hb hbytes d41) rfl rfl ?_
      refine XS.aload X8.here hexec rfl (hb hbytes d42) rfl rfl ?_
      refine XS.iloadN X8.here hexec rfl (hb hbytes d44) rfl ?_
      exact Steps.refl _)
    rw [n4]; exact hc
  obtain ⟨v11, T11, X11, E11, g11⟩ := X8.callS hexec (CodL.law l s.heap.size N) hown (wks W (staticW "java/lang/String" 47 CodL.yN)) (wk W CodL.tab) (W := 1) (Nat.le_of_ble_eq_true rfl) (Nat.le_of_ble_eq_true rfl) (Nat.le_refl _) (by show 0 + len + 0 ≤ len; omega) (g := (mkF m 45 #[.val (.ref a), .val (.ref b), .val (.int (Int32.ofNat o)), .val (.int (Int32.ofNat len)), .val .null, .val (.ref s.heap.size)] [.int (Int32.ofNat N.slots.size), .ref s.heap.size, .ref a])) rfl (by rw [hml]; rfl) c10 (argsL := [.ref s.heap.size, .int (Int32.ofNat N.slots.size)]) (rest := [.ref a]) rfl rfl (by show 2 * 0 + (1 + 0) ≤ _; decide) (hb hbytes d45) (⟨rfl, n1⟩)
  obtain ⟨rfl, q11⟩ := E11
  have hB11 := hB1.mv (X8.warmed.alike.symm.trans X11.warmed.alike) q11
  have c12 : Steps p.tables e below (s₁.setTop (entryFrame m #[.ref a, .ref b, .int (Int32.ofNat o), .int (Int32.ofNat len), .null] 6)) (T11.setTop (mkF m 48 #[.val (.ref a), .val (.ref b), .val (.int (Int32.ofNat o)), .val (.int (Int32.ofNat len)), .val .null, .val (.ref s.heap.size)] [.int 0, .ref a])) := g11
  obtain ⟨T13, X13, p13, bl13, sl13, st13⟩ := X11.finit hexec hown (wk W (.fieldLink "java/lang/String" 15 "java/lang/String" "coder" "B")) (Or.inr ⟨_, (wk W (.laysFinal "java/lang/String" "java/lang/String" "coder" "B"))⟩) (Or.inl ⟨rfl, hnm⟩) f2 (Or.inl rfl) hB11 (t := .byte) (by decide +kernel) rfl (g := (mkF m 48 #[.val (.ref a), .val (.ref b), .val (.int (Int32.ofNat o)), .val (.int (Int32.ofNat len)), .val .null, .val (.ref s.heap.size)] [.int 0, .ref a])) rfl (rest := []) rfl (hb hbytes d48)
  have c14 : Steps p.tables e below (s₁.setTop (entryFrame m #[.ref a, .ref b, .int (Int32.ofNat o), .int (Int32.ofNat len), .null] 6)) (T13.setTop (mkF m 54 #[.val (.ref a), .val (.ref b), .val (.int (Int32.ofNat o)), .val (.int (Int32.ofNat len)), .val .null, .val (.ref s.heap.size)] [.ref s.heap.size, .ref a])) := (c12.trans (st13 _ (Steps.refl _))).trans (by
    refine XS.aloadN X13.here hexec rfl (hb hbytes d51) rfl rfl ?_
    refine XS.aload X13.here hexec rfl (hb hbytes d52) rfl rfl ?_
    exact Steps.refl _)
  obtain ⟨T15, X15, p15, bl15, sl15, st15⟩ := X13.finit hexec hown (wk W (.fieldLink "java/lang/String" 9 "java/lang/String" "value" "[B")) (Or.inr ⟨_, (wk W (.laysFinal "java/lang/String" "java/lang/String" "value" "[B"))⟩) (Or.inl ⟨rfl, hnm⟩) f1 (Or.inl rfl) bl13 (t := (.array .byte)) (by decide +kernel) rfl (g := (mkF m 54 #[.val (.ref a), .val (.ref b), .val (.int (Int32.ofNat o)), .val (.int (Int32.ofNat len)), .val .null, .val (.ref s.heap.size)] [.ref s.heap.size, .ref a])) rfl (rest := []) rfl (hb hbytes d54)
  have c16 : Steps p.tables e below (s₁.setTop (entryFrame m #[.ref a, .ref b, .int (Int32.ofNat o), .int (Int32.ofNat len), .null] 6)) (T15.setTop (mkF m 57 #[.val (.ref a), .val (.ref b), .val (.int (Int32.ofNat o)), .val (.int (Int32.ofNat len)), .val .null, .val (.ref s.heap.size)] [])) := c14.trans (st15 _ (Steps.refl _))
  have ap := apart (Or.inr ⟨_, (wk W (.laysFinal "java/lang/String" "java/lang/String" "value" "[B"))⟩) (Or.inr ⟨_, (wk W (.laysFinal "java/lang/String" "java/lang/String" "coder" "B"))⟩) f1 f2 (t₁ := .array .byte) (t₂ := .byte) (by decide +kernel) (by decide +kernel) (by decide)
  have al := X8.warmed.alike.symm.trans X15.warmed.alike
  have n7 : T11.heap[s.heap.size]? = some N := by rw [q11]; exact n1.1
  exact ⟨T15, none, _, _, _, X15, by simp, rfl, by omega, (fun _ => rfl), ⟨rfl, _, N, bl15, ((Same.refl D _).set _ (by simp)).set _ (by simp), sl15, (Cell.slots_setSlot_ne _ ap).trans sl13, n1.keep al (p15.other hne (p13.other hne n7)), n2, by rw [al.findClass]; exact n3, n4, n5, fun y c h1 h2 => p15.other h1 (p13.other h1 (by rw [q11]; exact n6 y c h2)), by rw [p15.2.2, p13.2.2, q11]; exact z8⟩, fun fs hl => c16.trans (X15.returnOut hexec hret (hb hbytes d57) hl)⟩
end New4
namespace New1
def yN : MethodName := ⟨"java/lang/String", "<init>", "([C)V"⟩
abbrev yB : ByteArray := jdk_42_method_3_code
theorem d0 : decode yB 0 = .ok (.aload_n 0, 1) := by decide +kernel
theorem d1 : decode yB 1 = .ok (.aload_n 1, 1) := by decide +kernel
theorem d2 : decode yB 2 = .ok (.iconst 0, 1) := by decide +kernel
theorem d3 : decode yB 3 = .ok (.aload_n 1, 1) := by decide +kernel
theorem d4 : decode yB 4 = .ok (.arraylength, 1) := by decide +kernel
theorem d5 : decode yB 5 = .ok (.aconst_null, 1) := by decide +kernel
theorem d6 : decode yB 6 = .ok (.invokespecial 27, 3) := by decide +kernel
theorem d9 : decode yB 9 = .ok (.return_, 1) := by decide +kernel
def site : List Cond := [New4.tab] ++ initW "java/lang/String" 27 New4.yN
def tab : Cond := tabOf yN yB 2 none site
def P (a : Addr) (D : Cell) (fV fC : Field) (b : Addr) (A : Cell) (z : Int32) (args : Array Value) (s : State) : Prop := args = #[.ref a, .ref b] ∧ Blank "java/lang/String" a D s ∧ Found "java/lang/String" "value" "[B" fV s ∧ Found "java/lang/String" "coder" "B" fC s ∧ Ch b A s ∧ StaticIs s "java/lang/String" "COMPACT_STRINGS" "Z" (.int z) ∧ ¬ z = 0 ∧ 0 < A.slots.size ∧ A.slots.size ≤ 536870912 ∧ ∀ i, i < A.slots.size → ¬ 255 < cv A i
def E (a : Addr) (D : Cell) (fV fC : Field) (A : Cell) (r : Option Value) (s u : State) : Prop := Got a D fV fC A 0 A.slots.size r s u
theorem law (l : Launch) (a : Addr) (D : Cell) (fV fC : Field) (b : Addr) (A : Cell) (z : Int32) : Law l yN 2 1 3 52 yB 2 none site (P a D fV fC b A z) (E a D fV fC A) [⟨a, fC.slot⟩, ⟨a, fV.slot⟩] 1 A.slots.size := by
  refine Law.of_walk (plainFor_of_name (by decide +kernel)) (by decide +kernel) (by decide +kernel) (by decide) (fun _ _ h => by rw [h.1]; rfl) (fun _ U U' hal hh h => ⟨h.1, h.2.1.mv hal hh, h.2.2.1.al hal, h.2.2.2.1.al hal, h.2.2.2.2.1.mv hal hh, h.2.2.2.2.2.1.there hal hh, h.2.2.2.2.2.2⟩) (fun r U U' V V' h1 hal h2 h => Got.mv r U U' V V' h1 hal h2 h) ?_
  intro p e s m args below meth c s₁ X0 hexec hbytes hml hret hlk hnm hown hh0 W hP
  obtain ⟨rfl, hB, f1, f2, hA, s1, hz, l0, l2, hp⟩ := hP
  have c1 : Steps p.tables e below (s₁.setTop (entryFrame m #[.ref a, .ref b] 2)) (s₁.setTop (mkF m 0 #[.val (.ref a), .val (.ref b)] [])) := entry rfl
  have c2 : Steps p.tables e below (s₁.setTop (entryFrame m #[.ref a, .ref b] 2)) (s₁.setTop (mkF m 6 #[.val (.ref a), .val (.ref b)] [.null, .int (Int32.ofNat A.slots.size), .int 0, .ref b, .ref a])) := c1.trans (by
    refine XS.aloadN X0.here hexec rfl (hb hbytes d0) rfl rfl ?_
    refine XS.aloadN X0.here hexec rfl (hb hbytes d1) rfl rfl ?_
    refine iconstV X0.here hexec rfl 0 (hb hbytes d2) (by decide) ?_
    refine XS.aloadN X0.here hexec rfl (hb hbytes d3) rfl rfl ?_
    refine X0.alen hexec (hA.1.mv X0.warmed.alike hh0) rfl rfl (hb hbytes d4) ?_
    refine XS.aconstNull X0.here hexec rfl (hb hbytes d5) ?_
    exact Steps.refl _)
  obtain ⟨v3, T3, X3, E3, g3⟩ := X0.callN hexec (New4.law l a D fV fC b A z 0 A.slots.size) rfl hown (wks W (initW "java/lang/String" 27 New4.yN)) (W New4.tab (by simp only [site, List.mem_cons, List.mem_append, true_or, or_true])) (W := 0) (Nat.le_of_ble_eq_true rfl) (Nat.le_of_ble_eq_true rfl) (Nat.le_refl _) (by show 0 + A.slots.size ≤ A.slots.size; omega) (g := (mkF m 6 #[.val (.ref a), .val (.ref b)] [.null, .int (Int32.ofNat A.slots.size), .int (Int32.ofNat 0), .ref b, .ref a])) rfl (by rw [hml]; rfl) c2 (argsL := [.ref b, .int (Int32.ofNat 0), .int (Int32.ofNat A.slots.size), .null]) (rest := []) rfl rfl (by show 2 * 0 + 0 ≤ _; decide) (hb hbytes d6) (⟨rfl, hB.mv X0.warmed.alike hh0, f1.al X0.warmed.alike, f2.al X0.warmed.alike, hA.mv X0.warmed.alike hh0, s1.there X0.warmed.alike hh0, hz, l0, by omega, l2, fun i hi => by rw [Nat.zero_add]; exact hp i hi⟩)
  have e0 := Got.mv _ s₁ s _ _ hh0.symm (Vm.Alike.refl _) rfl E3
  obtain rfl := e0.1
  have c4 : Steps p.tables e below (s₁.setTop (entryFrame m #[.ref a, .ref b] 2)) (T3.setTop (mkF m 9 #[.val (.ref a), .val (.ref b)] [])) := g3
  exact ⟨T3, none, _, _, _, X3, by simp, rfl, by omega, (fun _ => rfl), e0, fun fs hl => c4.trans (X3.returnOut hexec hret (hb hbytes d9) hl)⟩
theorem pays {l : Launch} {R : Room} {p : Program} {e : Env} {below : List Frame} {s : State} {sargs : Array Value} {len W : Nat} (a : Addr) (D : Cell) (fV fC : Field) (b : Addr) (A : Cell) (z : Int32) (htab : tab.before sargs s = true) (hfr : 4 ≤ R.frames) (hlo : W + 65 ≤ R.locals) :
    Back l R p e below s sargs yN len W (fun A₁ a₁ => A₁.cells + 1 ≤ R.cells ∧ A₁.slots + A.slots.size ≤ R.slots ∧ P a D fV fC b A z a₁ A₁.U) (fun A₁ _ v₁ B₁ => E a D fV fC A v₁ A₁.U B₁.U ∧ B₁.locs = A₁.locs ++ [⟨a, fC.slot⟩, ⟨a, fV.slot⟩] ∧ B₁.cells = A₁.cells + 1 ∧ B₁.slots = A₁.slots + A.slots.size) :=
  (law l a D fV fC b A z).pays htab hfr (by omega)
end New1
theorem lo8_mask {x : Int32} (h0 : ¬ x < 0) (h1 : ¬ 255 < x) : lo8 x &&& 255 = x := by
  have t : ∀ k : Fin 256, lo8 (Int32.ofNat k.val) &&& 255 = Int32.ofNat k.val := by decide +kernel
  rw [Int32.lt_iff_toInt_lt] at h0 h1
  have e0 : (0 : Int32).toInt = 0 := rfl
  have e1 : (255 : Int32).toInt = 255 := rfl
  obtain ⟨k, hk⟩ : ∃ k : Nat, x.toInt = k := ⟨x.toInt.toNat, by omega⟩
  have hx : x = Int32.ofNat k := Int32.toInt_inj.mp (by rw [hk, Int32.toInt_ofNat_small (by omega)])
  rw [hx]
  exact t ⟨k, by omega⟩
end StrChars
namespace StrChars.Road
open Jvm Sem ClassFile Op Lib Jvm.Stand Jvm.Free Jvm.Free.XT
open Jvm.Lib.Cold (StaticIs)
abbrev ST : String := "java/lang/String"
abbrev words : List Jvm.Cond := [.code New1.yN New1.yB 2 none, .initialized ST, .methodLink ST 27 New4.yN, .instanceMethod New4.yN,
  .code New4.yN New4.yB 6 none, .fieldLink ST 38 ST "COMPACT_STRINGS" "Z", .laysFinal ST ST "value" "[B", .fieldLink ST 9 ST "value" "[B", .laysFinal ST ST "coder" "B", .fieldLink ST 15 ST "coder" "B",
  .methodLink ST 1 Lib.objectInit, .instanceMethod Lib.objectInit, .code Lib.objectInit ⟨#[0xb1]⟩ 1 none, .methodLink ST 177 Cmp3.yN, .static Cmp3.yN, .methodLink ST 47 CodL.yN, .static CodL.yN,
  .code Cmp3.yN Cmp3.yB 6 (some (.array .byte)), .initialized U16, .arrayClass .byte, .methodLink U16 115 Cmp5.yN, .static Cmp5.yN, .code Cmp5.yN Cmp5.yB 7 (some .int), .code CodL.yN CodL.yB 2 (some .byte)]
theorem tab_of {a : Array Value} {s : State} (h : ∀ w ∈ words, w.before a s = true) : New1.tab.before a s = true := by
  have h5 : Cmp5.tab.before a s = true := unparts (wk h (.code Cmp5.yN Cmp5.yB 7 (some .int))) (wks h (.initialized Cmp5.yN.cls :: Cmp5.site))
  have hc : CodL.tab.before a s = true := unparts (wk h (.code CodL.yN CodL.yB 2 (some .byte))) (wks h (.initialized CodL.yN.cls :: CodL.site))
  have q5 : ∀ w ∈ Cmp5.tab :: words, w.before a s = true := fun w hw => (List.mem_cons.mp hw).elim (fun e => e ▸ h5) (h w)
  have h3 : Cmp3.tab.before a s = true := unparts (wk q5 (.code Cmp3.yN Cmp3.yB 6 (some (.array .byte)))) (wks q5 (.initialized Cmp3.yN.cls :: Cmp3.site))
  have q3 : ∀ w ∈ Cmp3.tab :: CodL.tab :: words, w.before a s = true := fun w hw => (List.mem_cons.mp hw).elim (fun e => e ▸ h3) fun hw => (List.mem_cons.mp hw).elim (fun e => e ▸ hc) (h w)
  have h4 : New4.tab.before a s = true := unparts (wk q3 (.code New4.yN New4.yB 6 none)) (wks q3 (.initialized New4.yN.cls :: New4.site))
  have q4 : ∀ w ∈ New4.tab :: words, w.before a s = true := fun w hw => (List.mem_cons.mp hw).elim (fun e => e ▸ h4) (h w)
  exact unparts (wk q4 (.code New1.yN New1.yB 2 none)) (wks q4 (.initialized New1.yN.cls :: New1.site))
theorem moved {Z s : State} {a0 args : Array Value} (hZ : Z.Warmed39 s.vm) (hw : ∀ d ∈ words, d.before a0 Z = true) : ∀ d ∈ words, d.before args s = true := fun d hd => by
  have q := hw d hd
  have t : ∀ d ∈ words, d = .arrayClass .byte ∨ (d.onTables && d.keepsFace) = true := by decide +kernel
  rcases t d hd with rfl | t
  · exact RoadKit.mvA hZ q
  · exact RoadKit.mv hZ q t
def Q (Z : State) (x : Addr) (A : Cell) (h : Heap) (v : Option Value) (h' : Heap) (L : List Loc) : Prop := v = none ∧ (∀ y ∈ L, y.base = x) ∧ RoadKit.Keep h h' [x] ∧ h'.size = h.size + 1 ∧ RoadKit.Exa Z h' x ST ∧ RoadKit.Fld Z h' x ST "value" "[B" (.ref h.size) ∧ RoadKit.Fld Z h' x ST "coder" "B" (.int 0) ∧
  (∃ V : Cell, RoadKit.Arr Z h' h.size V .byte ∧ V.vm = .none ∧ Z.vm.findClass "[B" = some V.cls ∧ V.slots.size = A.slots.size ∧ ∀ j, j < A.slots.size → V.slots[j]? = some (.int (lo8 (cv A j)))) ∧
  ∀ (O n d : String) (w : Value), RoadKit.Fld Z h x O n d w → RoadKit.slotOf Z O n d ≠ RoadKit.slotOf Z ST "value" "[B" → RoadKit.slotOf Z O n d ≠ RoadKit.slotOf Z ST "coder" "B" → RoadKit.Fld Z h' x O n d w
theorem back {p : Program} {l : Launch} {e : Env} {R : Room} {s : State} {args : Array Value} {below : List Frame} {len W : Nat} {Z : State} {a0 : Array Value} {h : Heap} (hZ : Z.Warmed39 s.vm) (hw : ∀ d ∈ words, d.before a0 Z = true) {kI : Nat} (wi : (Jvm.Cond.instantiable ST kI).before a0 Z = true)
    {x b : Addr} {A : Cell} {z : Int32} {v0 c0 : Value} (E : RoadKit.Exa Z h x ST) (V : RoadKit.Fld Z h x ST "value" "[B" v0) (C : RoadKit.Fld Z h x ST "coder" "B" c0) (K : RoadKit.Arr Z h b A .char) (hty : Typed .char A) (S : RoadKit.Sta Z h ST "COMPACT_STRINGS" "Z" (.int z)) (hz : ¬ z = 0)
    (l0 : 0 < A.slots.size) (l2 : A.slots.size ≤ 536870912) (hp : ∀ i, i < A.slots.size → ¬ 255 < cv A i) (hfr : 4 ≤ R.frames) (hlo : W + 65 ≤ R.locals) :
    Back l R p e below s args New1.yN len W (fun P a => a = #[.ref x, .ref b] ∧ P.U.heap = h ∧ P.cells + 1 ≤ R.cells ∧ P.slots + A.slots.size ≤ R.slots)
      (fun P _ v B => ∃ L, Q Z x A h v B.U.heap L ∧ B.locs = P.locs ++ L ∧ B.cells = P.cells + 1 ∧ B.slots = P.slots + A.slots.size) := by
  intro m meth c P g ig mk a X hg hsize hdg hW hn hp'
  obtain ⟨rfl, rfl, r1, r2⟩ := hp'
  have al : Z.vm.Alike P.U.vm := hZ.alike.trans X.warmed.alike
  obtain ⟨D, cfV, kV, iV, fV, hD, gV, stV, knV, obV, asV, slV⟩ := id V
  obtain ⟨D', cfC, kC, iC, fC, hD', gC, stC, -, -, asC, slC⟩ := id C
  cases hD.symm.trans hD'
  obtain ⟨D2, kD, e1, e2, e3, e4, e5⟩ := id E
  cases hD.symm.trans e1
  obtain ⟨c2, k2, i1, i2, i3, -⟩ := Cond.instantiable_spec wi
  cases e2.symm.trans i1
  cases e3.symm.trans i2
  obtain ⟨kU, u1, u2⟩ := al.2.2 _ _ e3
  have hB : Blank ST x D P.U := ⟨hD, ⟨knV, fun q hq => by rw [hq] at obV; cases obV⟩, by rw [al.findClass]; exact e2, kU, u1, by rw [u2]; exact i3, by rw [u2]; exact e5 i3⟩
  have F1 : Found ST "value" "[B" fV P.U := ⟨SBG.found_only al ⟨cfV, kV, iV, gV⟩, stV⟩
  have F2 : Found ST "coder" "B" fC P.U := ⟨SBG.found_only al ⟨cfC, kC, iC, gC⟩, stC⟩
  have hA : Ch b A P.U := ⟨⟨K.1, State.isArrayOf_alike al K.2.1, K.2.2, by omega⟩, hty⟩
  have hS : StaticIs P.U ST "COMPACT_STRINGS" "Z" (.int z) := by
    obtain ⟨cfS, iS, kS, fS, st, cS, t1, t2, t3, t4, t5, t6, t7⟩ := S
    exact StaticIs.there (s := { Z with heap := P.U.heap }) ⟨cfS, iS, kS, fS, st, cS, t1, t2, t3, t4, t5, (fun q => by rw [q] at t6; cases t6), t7⟩ al rfl
  obtain ⟨v, B, X', ⟨⟨hv, E', V', q1, q2, q3, q4, q5, q6, q7, q8, q9, q10, q11⟩, hl, hc, hs⟩, st⟩ := New1.pays x D fV fC b A z (tab_of (moved hZ hw)) hfr hlo m meth c P g ig mk _ X hg hsize hdg hW hn ⟨r1, r2, rfl, hB, F1, F2, hA, hS, hz, l0, l2, hp⟩
  have al' : Z.vm.Alike B.U.vm := hZ.alike.trans X'.warmed.alike
  have hsz : E'.slots.size = D.slots.size := by
    obtain ⟨-, -, -, kB, w1, w2, w3⟩ := q1
    obtain ⟨kB', y1, y2⟩ := al'.2.2 _ _ e3
    rw [q2.2.1] at w1
    cases w1.symm.trans y1
    rw [w3, e5 i3, y2]
  refine ⟨v, B, X', ⟨_, ⟨hv, ?_, ⟨by omega, fun y cy hy hn' => q10 y cy (by simpa using hn') hy, fun y cy hy => ?_⟩, q11, ⟨E', _, q1.1, by rw [q2.2.1]; exact e2, by rw [q2.2.1]; exact e3, by rw [q2.1]; exact obV, fun _ => by rw [hsz]; exact e5 i3⟩,
    ⟨E', cfV, kV, iV, fV, q1.1, gV, stV, by rw [q2.1]; exact knV, by rw [q2.1]; exact obV, by rw [q2.2.1]; exact asV, q3⟩, ⟨E', cfC, kC, iC, fC, q1.1, gC, stC, by rw [q2.1]; exact knV, by rw [q2.1]; exact obV, by rw [q2.2.1]; exact asC, q4⟩,
    ⟨V', ⟨q5.1, State.isArrayOf_alike al'.symm q5.2.1, q5.2.2.1⟩, q6, by rw [← al'.findClass]; exact q7, q8, fun j hj => by have := q9 j hj; rwa [Nat.zero_add] at this⟩, fun O n d w F n1 n2 => ?_⟩, hl, hc, hs⟩, st⟩
  · intro y hy
    simp only [List.mem_cons, List.not_mem_nil, or_false] at hy
    rcases hy with rfl | rfl <;> rfl
  · by_cases q : y = x
    · subst q
      cases hD.symm.trans hy
      exact ⟨E', q1.1, q2.2.1, q2.1, hsz⟩
    · exact ⟨cy, q10 y cy q hy, rfl, rfl, rfl⟩
  · obtain ⟨D3, cf, k, i, f, g1, g2, g3, g4, g5, g6, g7⟩ := F
    cases hD.symm.trans g1
    simp only [RoadKit.slotOf, g2, gV, gC, Option.map_some, Option.getD_some] at n1 n2
    exact ⟨E', cf, k, i, f, q1.1, g2, g3, by rw [q2.1]; exact g4, by rw [q2.1]; exact g5, by rw [q2.2.1]; exact g6, by rw [q2.2.2 f.slot (by simp [n1, n2])]; exact g7⟩
end StrChars.Road
namespace StrChars.Road
open Jvm Sem ClassFile Op Lib Jvm.Stand Jvm.Free Jvm.Free.XT
def QA (Z : State) (x : Addr) (zn : Int32) (cs : List Int32) (h : Heap) (v : Option Value) (h' : Heap) (L : List Loc) : Prop := v = none ∧ (∀ y ∈ L, y.base = x) ∧ RoadKit.Keep h h' [x] ∧ h'.size = h.size + 1 ∧ RoadKit.Exa Z h' x ST ∧ RoadKit.Fld Z h' x ST "value" "[B" (.ref h.size) ∧ RoadKit.Fld Z h' x ST "coder" "B" (.int 0) ∧
  (∃ kb, Z.vm.findClass "[B" = some kb ∧ RoadKit.Arv Z h' h.size kb .byte zn (cs.map fun c => .int (lo8 c)) (.int 0)) ∧
  ∀ (O n d : String) (w : Value), RoadKit.Fld Z h x O n d w → RoadKit.slotOf Z O n d ≠ RoadKit.slotOf Z ST "value" "[B" → RoadKit.slotOf Z O n d ≠ RoadKit.slotOf Z ST "coder" "B" → RoadKit.Fld Z h' x O n d w
theorem backArv {p : Program} {l : Launch} {e : Env} {R : Room} {s : State} {args : Array Value} {below : List Frame} {len W : Nat} {Z : State} {a0 : Array Value} {h : Heap} (hZ : Z.Warmed39 s.vm) (hw : ∀ d ∈ words, d.before a0 Z = true) {kI : Nat} (wi : (Jvm.Cond.instantiable ST kI).before a0 Z = true)
    {x b : Addr} {k : ClassId} {zn z : Int32} {cs : List Int32} {dv v0 c0 : Value} (E : RoadKit.Exa Z h x ST) (V : RoadKit.Fld Z h x ST "value" "[B" v0) (C : RoadKit.Fld Z h x ST "coder" "B" c0) (K : RoadKit.Arv Z h b k .char zn (cs.map Value.int) dv) (S : RoadKit.Sta Z h ST "COMPACT_STRINGS" "Z" (.int z)) (hz : ¬ z = 0)
    (hlen : zn.toNatClampNeg = cs.length) (h0 : 0 < cs.length) (hbig : cs.length ≤ 536870912) (hall : ∀ c ∈ cs, ¬ 255 < c) (hfr : 4 ≤ R.frames) (hlo : W + 65 ≤ R.locals) :
    Back l R p e below s args New1.yN len W (fun P a => a = #[.ref x, .ref b] ∧ P.U.heap = h ∧ P.cells + 1 ≤ R.cells ∧ P.slots + cs.length ≤ R.slots)
      (fun P _ v B => ∃ L, QA Z x zn cs h v B.U.heap L ∧ B.locs = P.locs ++ L ∧ B.cells = P.cells + 1 ∧ B.slots = P.slots + cs.length) := by
  obtain ⟨A, K1, K2, K3, K4, K5, K6⟩ := K
  have e : A.slots.size = cs.length := K3.trans hlen
  have hat : ∀ (i : Nat) (hi : i < cs.length), A.slots[i]? = some (.int cs[i]) := fun i hi => by rw [K5 i (by omega)]; simp [List.getD_eq_getElem?_getD, hi]
  have hcv : ∀ (i : Nat) (hi : i < cs.length), cv A i = cs[i] := fun i hi => by unfold cv; rw [hat i hi]
  have hty : Typed .char A := fun i v hv => by
    have hi : i < A.slots.size := (Array.getElem?_eq_some_iff.mp hv).1
    have q := K5 i hi
    rw [hv] at q
    rw [Option.some.inj q]
    exact K6 i hi
  refine Back.mono (back hZ hw wi E V C K1 hty S hz (by omega) (by omega) (fun i hi => by rw [hcv i (by omega)]; exact hall _ (List.getElem_mem _)) hfr hlo) (fun P a hp => ⟨hp.1, hp.2.1, hp.2.2.1, by rw [e]; exact hp.2.2.2⟩) (fun P a v B hp hq => ?_)
  obtain ⟨L, ⟨q1, q2, q3, q4, q5, q6, q7, ⟨V', v1, v2, v3, v4, v5⟩, q9⟩, hl, hc, hs⟩ := hq
  refine ⟨L, ⟨q1, q2, q3, q4, q5, q6, q7, ⟨V'.cls, v3, V', v1, rfl, by rw [v4, e, hlen], K4, fun i hi => ?_, fun i hi => ?_⟩, q9⟩, hl, hc, by rw [hs, e]⟩
  · have hi' : i < cs.length := by omega
    rw [v5 i (by omega), hcv i hi']; simp [List.getD_eq_getElem?_getD, hi']
  · have hi' : i < cs.length := by omega
    simp only [List.getD_eq_getElem?_getD, List.getElem?_map, List.getElem?_eq_getElem hi', Option.map_some, Option.getD_some]
    exact fits_lo8 _
end StrChars.Road
namespace StrChars.Road
open Jvm Sem ClassFile Op Lib Jvm.Stand Jvm.Free Jvm.Free.XT
def QV (Z : State) (x : Addr) (N : Int32) (bs : List Int32) (h : Heap) (n0 : Nat) (v : Option Value) (h' : Heap) (L : List Loc) : Prop := v = none ∧ RoadKit.Fr n0 L ∧ RoadKit.Keep h h' [x] ∧ RoadKit.Exa Z h' x ST ∧ RoadKit.Fld Z h' x ST "coder" "B" (.int 0) ∧
  ∃ (t : Addr) (kb : ClassId), n0 ≤ t ∧ h.size ≤ t ∧ ¬ t = x ∧ RoadKit.Fld Z h' x ST "value" "[B" (.ref t) ∧ RoadKit.Arv Z h' t kb .byte N (bs.map Value.int) (.int 0)
theorem backV {p : Program} {l : Launch} {e : Env} {R : Room} {s : State} {args : Array Value} {below : List Frame} {len W : Nat} {Z : State} {a0 : Array Value} {h : Heap} (hZ : Z.Warmed39 s.vm) (hw : ∀ d ∈ words, d.before a0 Z = true) {kI : Nat} (wi : (Jvm.Cond.instantiable ST kI).before a0 Z = true)
    {x b : Addr} {kC : ClassId} {cs bs : List Int32} {d v0 c0 : Value} {z N : Int32} {n n0 : Nat} (hx0 : n0 ≤ x) (hh0 : n0 ≤ h.size) (E : RoadKit.Exa Z h x ST) (V : RoadKit.Fld Z h x ST "value" "[B" v0) (C : RoadKit.Fld Z h x ST "coder" "B" c0) (K : RoadKit.Arv Z h b kC .char N (cs.map Value.int) d) (S : RoadKit.Sta Z h ST "COMPACT_STRINGS" "Z" (.int z)) (hz : ¬ z = 0)
    (hn : cs.length = n) (hN : N = Int32.ofNat n) (l0 : 0 < n) (l2 : n ≤ 4000) (hp : ∀ c ∈ cs, ¬ c < 0 ∧ ¬ (255 : Int32) < c) (hb : bs = cs.map (fun c => c.toInt8.toInt32)) (hfr : 4 ≤ R.frames) (hlo : W + 65 ≤ R.locals) :
    Back l R p e below s args (⟨"java/lang/String", "<init>", "([C)V"⟩ : MethodName) len W (fun P a => a = #[.ref x, .ref b] ∧ P.U.heap = h ∧ P.cells + 1 ≤ R.cells ∧ P.slots + n ≤ R.slots)
      (fun P _ v B => ∃ L, QV Z x N bs h n0 v B.U.heap L ∧ B.locs = P.locs ++ L ∧ B.cells = P.cells + 1 ∧ B.slots = P.slots + n) := by
  subst hn hN hb
  refine Back.mono (backArv hZ hw wi E V C K S hz (n32 (by omega)) l0 (by omega) (fun c hc => (hp c hc).2) hfr hlo) (fun P a hp => hp) (fun P a v B hp hq => ?_)
  obtain ⟨L, ⟨q1, q2, q3, q4, q5, q6, q7, ⟨kb, v1, v2⟩, q9⟩, hl, hc, hs⟩ := hq
  exact ⟨L, ⟨q1, fun y hy => by rw [q2 y hy]; exact hx0, q3, q5, q7, h.size, kb, hh0, Nat.le_refl _, Nat.ne_of_gt E.lt, q6, by rw [List.map_map]; exact v2⟩, hl, hc, hs⟩
end StrChars.Road
namespace StrChars
open Jvm Sem ClassFile Op Lib Jvm.Stand Jvm.Free.XT Jvm.Free.ALB Jvm.Free.JM Jvm.Free
open Jvm.Lib.Cold (StaticIs)
def hi8 (x : Int32) : Int32 := lo8 (x >>> ((8 : Int32) &&& 31))
def pairCh (u v : Int32) : Int32 := (((u &&& 255) <<< ((0 : Int32) &&& 31)) ||| ((v &&& 255) <<< ((8 : Int32) &&& 31))).toUInt32.toUInt16.toUInt32.toInt32
theorem shr0 (c : Int32) : c >>> ((0 : Int32) &&& 31) = c := by
  have e : ((0 : Int32) &&& 31) = 0 := by decide
  rw [e]
  apply Int32.toBitVec_inj.mp
  rw [Int32.toBitVec_shiftRight]
  have e1 : ((0 : Int32).toBitVec.smod 32) = 0#32 := by decide
  rw [e1, BitVec.sshiftRight_eq']
  exact BitVec.sshiftRight_zero
theorem lo8_and (x : Int32) : (lo8 x &&& 255).toBitVec.toNat = x.toBitVec.toNat % 256 := by
  have h : (lo8 x).toBitVec = (x.toBitVec.signExtend 8).signExtend 32 := by rw [lo8, Int8.toBitVec_toInt32, Int32.toBitVec_toInt8]
  rw [Int32.toBitVec_and, BitVec.toNat_and, h]
  have e : ((x.toBitVec.signExtend 8).signExtend 32).toNat % 256 = x.toBitVec.toNat % 256 := by
    rw [BitVec.toNat_signExtend]
    have hlt := x.toBitVec.isLt
    simp only [BitVec.toNat_setWidth, BitVec.toNat_signExtend]
    split <;> split <;> omega
  rw [← e]
  exact Nat.and_two_pow_sub_one_eq_mod _ 8
theorem pair_says {c : Int32} (h0 : ¬ c < 0) (h1 : ¬ 65535 < c) : pairCh (lo8 c) (hi8 c) = c := by
  rw [Int32.lt_iff_toInt_lt] at h0 h1
  have e0 : (0 : Int32).toInt = 0 := rfl
  have e1 : (65535 : Int32).toInt = 65535 := rfl
  have hc : c.toInt = c.toBitVec.toNat := by
    have := c.toBitVec.isLt
    have e : c.toInt = c.toBitVec.toInt := rfl
    rw [e] at h0 h1
    rw [e]
    rw [BitVec.toInt_eq_toNat_cond] at h0 h1 ⊢
    split at h0 <;> split <;> omega
  have hn : c.toBitVec.toNat < 65536 := by omega
  have a1 := lo8_and c
  have a2 : (hi8 c &&& 255).toBitVec.toNat = c.toBitVec.toNat / 256 := by
    rw [hi8, lo8_and]
    have e : ((8 : Int32) &&& 31) = 8 := by decide
    rw [e, Int32.toBitVec_shiftRight]
    have e2 : ((8 : Int32).toBitVec.smod 32) = 8#32 := by decide
    rw [e2, BitVec.sshiftRight_eq', BitVec.toNat_sshiftRight_of_msb_false (by rw [BitVec.msb_eq_false_iff_two_mul_lt]; omega)]
    show c.toBitVec.toNat >>> 8 % 256 = _
    rw [Nat.shiftRight_eq_div_pow]
    omega
  unfold pairCh
  apply Int32.toBitVec_inj.mp
  apply BitVec.eq_of_toNat_eq
  have f0 : ((0 : Int32) &&& 31) = 0 := by decide
  have f8 : ((8 : Int32) &&& 31) = 8 := by decide
  rw [f0, f8]
  have g : (((lo8 c &&& 255) <<< (0 : Int32)) ||| ((hi8 c &&& 255) <<< (8 : Int32))).toBitVec.toNat = c.toBitVec.toNat := by
    rw [Int32.toBitVec_or, Int32.toBitVec_shiftLeft, Int32.toBitVec_shiftLeft]
    have s0 : ((0 : Int32).toBitVec.smod 32) = 0#32 := by decide
    have s8 : ((8 : Int32).toBitVec.smod 32) = 8#32 := by decide
    rw [s0, s8, BitVec.toNat_or]
    simp only [BitVec.shiftLeft_eq', BitVec.toNat_shiftLeft, a1, a2]
    show (c.toBitVec.toNat % 256) <<< 0 % 2 ^ 32 ||| (c.toBitVec.toNat / 256) <<< 8 % 2 ^ 32 = _
    rw [Nat.shiftLeft_zero, Nat.mod_eq_of_lt (show c.toBitVec.toNat % 256 < 2 ^ 32 by omega), Nat.mod_eq_of_lt (show (c.toBitVec.toNat / 256) <<< 8 < 2 ^ 32 by rw [Nat.shiftLeft_eq]; omega), Nat.or_comm, ← Nat.shiftLeft_add_eq_or_of_lt (by omega), Nat.shiftLeft_eq]
    omega
  show BitVec.toNat (((((lo8 c &&& 255) <<< (0 : Int32)) ||| ((hi8 c &&& 255) <<< (8 : Int32))).toBitVec.setWidth 16).setWidth 32) = _
  rw [BitVec.toNat_setWidth, BitVec.toNat_setWidth, g]
  omega
end StrChars
namespace StrChars
open Jvm Sem ClassFile Op Lib Jvm.Stand Jvm.Free.XT Jvm.Free.ALB Jvm.Free.JM Jvm.Free
open Jvm.Lib.Cold (StaticIs)
theorem shr1 {n : Nat} (h : 2 * n < 2 ^ 31) : Int32.ofNat (2 * n) >>> ((1 : Int32) &&& 31) = Int32.ofNat n := by
  have e : ((1 : Int32) &&& 31) = 1 := by decide
  rw [e]
  apply Int32.toBitVec_inj.mp
  rw [Int32.toBitVec_shiftRight]
  have e1 : ((1 : Int32).toBitVec.smod 32) = 1#32 := by decide
  have hm : (BitVec.ofNat 32 (2 * n)).toNat = 2 * n := by rw [BitVec.toNat_ofNat, Nat.mod_eq_of_lt (by omega)]
  rw [e1, BitVec.sshiftRight_eq']
  apply BitVec.eq_of_toNat_eq
  show ((BitVec.ofNat 32 (2 * n)).sshiftRight 1).toNat = (BitVec.ofNat 32 n).toNat
  rw [BitVec.toNat_sshiftRight_of_msb_false (by rw [BitVec.msb_eq_false_iff_two_mul_lt, hm]; omega), hm, BitVec.toNat_ofNat, Nat.shiftRight_eq_div_pow]
  omega
def chr8 (u : Int32) : Int32 := (u &&& 255).toUInt32.toUInt16.toUInt32.toInt32
theorem chr8_lo8 {c : Int32} (h0 : ¬ c < 0) (h1 : ¬ 255 < c) : chr8 (lo8 c) = c := by
  have t : ∀ k : Fin 256, (Int32.ofNat k.val).toUInt32.toUInt16.toUInt32.toInt32 = Int32.ofNat k.val := by decide +kernel
  unfold chr8
  rw [lo8_mask h0 h1]
  rw [Int32.lt_iff_toInt_lt] at h0 h1
  have e0 : (0 : Int32).toInt = 0 := rfl
  have e1 : (255 : Int32).toInt = 255 := rfl
  obtain ⟨k, hk⟩ : ∃ k : Nat, c.toInt = k := ⟨c.toInt.toNat, by omega⟩
  have hx : c = Int32.ofNat k := Int32.toInt_inj.mp (by rw [hk, Int32.toInt_ofNat_small (by omega)])
  rw [hx]
  exact t ⟨k, by omega⟩
theorem narrow_ch {c : Int32} (h0 : ¬ c < 0) (h1 : ¬ 65535 < c) : narrow .char (.int c) = .int c := by
  have q : narrow .char (.int (pairCh (lo8 c) (hi8 c))) = .int (pairCh (lo8 c) (hi8 c)) := narrow_c _
  rwa [pair_says h0 h1] at q
def Cod (cd : Int32) (n : Nat) (f : Nat → Int32) (V : Cell) : Prop := (cd = 0 ∧ V.slots.size = n ∧ ∀ j, j < n → V.slots[j]? = some (.int (lo8 (f j))) ∧ ¬ 255 < f j) ∨ (cd = 1 ∧ V.slots.size = 2 * n ∧ (∀ j, j < n → V.slots[2 * j]? = some (.int (lo8 (f j))) ∧ V.slots[2 * j + 1]? = some (.int (hi8 (f j)))) ∧ ∃ j, j < n ∧ 255 < f j)
theorem Cod.cd {cd : Int32} {n : Nat} {f : Nat → Int32} {V : Cell} (h : Cod cd n f V) : cd = 0 ∨ cd = 1 := h.imp (fun q => q.1) fun q => q.1
theorem Cod.len {cd : Int32} {n : Nat} {f : Nat → Int32} {V : Cell} (h : Cod cd n f V) (hs : V.slots.size < 2 ^ 31) : Int32.ofNat V.slots.size >>> (cd &&& 31) = Int32.ofNat n := by
  rcases h with ⟨rfl, h, -⟩ | ⟨rfl, h, -⟩
  · rw [shr0, h]
  · rw [h, shr1 (by omega)]
def Txt (x t : Addr) (V : Cell) (cd : Int32) (n : Nat) (f : Nat → Int32) (U : State) : Prop := Exact "java/lang/String" x U ∧ Has x "java/lang/String" "value" "[B" (.ref t) U ∧ Has x "java/lang/String" "coder" "B" (.int cd) U ∧ XT.Arr .byte t V U ∧ Cod cd n f V ∧ ∀ j, j < n → ¬ f j < 0 ∧ ¬ 65535 < f j
theorem Txt.mv {x t : Addr} {V : Cell} {cd : Int32} {n : Nat} {f : Nat → Int32} {U U' : State} (h : Txt x t V cd n f U) (hal : U.vm.Alike U'.vm) (hh : U'.heap = U.heap) : Txt x t V cd n f U' := ⟨h.1.mv hal hh, h.2.1.mv hal hh, h.2.2.1.mv hal hh, h.2.2.2.1.mv hal hh, h.2.2.2.2⟩
namespace Cdr
def yN : MethodName := ⟨"java/lang/String", "coder", "()B"⟩
abbrev yB : ByteArray := jdk_42_method_152_code
theorem d0 : decode yB 0 = .ok (.getstatic 38, 3) := by decide +kernel
theorem d3 : decode yB 3 = .ok (.ifCond (.eq) 10, 3) := by decide +kernel
theorem d6 : decode yB 6 = .ok (.aload_n 0, 1) := by decide +kernel
theorem d7 : decode yB 7 = .ok (.getfield 15, 3) := by decide +kernel
theorem d10 : decode yB 10 = .ok (.goto 4, 3) := by decide +kernel
theorem d14 : decode yB 14 = .ok (.ireturn, 1) := by decide +kernel
def site : List Cond := [.fieldLink "java/lang/String" 38 "java/lang/String" "COMPACT_STRINGS" "Z", .fieldLink "java/lang/String" 15 "java/lang/String" "coder" "B"]
def tab : Cond := tabOf yN yB 1 (some .byte) site
def P (x : Addr) (cd z : Int32) (args : Array Value) (s : State) : Prop := args = #[.ref x] ∧ Has x "java/lang/String" "coder" "B" (.int cd) s ∧ (cd = 0 ∨ cd = 1) ∧ StaticIs s "java/lang/String" "COMPACT_STRINGS" "Z" (.int z) ∧ ¬ z = 0
def E (cd : Int32) (r : Option Value) (s u : State) : Prop := XT.PureE (some (.int cd)) r s u
theorem law (l : Launch) (x : Addr) (cd z : Int32) : Law l yN 1 0 0 0 yB 1 (some .byte) site (P x cd z) (E cd) [] 0 0 := by
  refine Law.of_walk (plainFor_of_name (by decide +kernel)) (by decide +kernel) (by decide +kernel) (by decide) (fun _ _ h => by rw [h.1]; rfl) (fun _ U U' hal hh h => ⟨h.1, h.2.1.mv hal hh, h.2.2.1, h.2.2.2.1.there hal hh, h.2.2.2.2⟩) (fun r U U' V V' h1 hal h2 h => XT.PureE.mv r U U' V V' h1 hal h2 h) ?_
  intro p e s m args below meth c s₁ X0 hexec hbytes hml hret hlk hnm hown hh0 W hP
  obtain ⟨rfl, hx, hc, s1, hz⟩ := hP
  have c1 : Steps p.tables e below (s₁.setTop (entryFrame m #[.ref x] 1)) (s₁.setTop (mkF m 0 #[.val (.ref x)] [])) := entry rfl
  obtain ⟨T2, X2, q2, st2⟩ := X0.sget hexec hown (wk W (.fieldLink "java/lang/String" 38 "java/lang/String" "COMPACT_STRINGS" "Z")) s1 (fun _ _ h => by rw [hh0]; exact h) (g := (mkF m 0 #[.val (.ref x)] [])) rfl (hb hbytes d0)
  have hh2 := q2.trans hh0
  have c3 : Steps p.tables e below (s₁.setTop (entryFrame m #[.ref x] 1)) (T2.setTop (mkF m 7 #[.val (.ref x)] [.ref x])) := (c1.trans (st2 _ (Steps.refl _))).trans (by
    refine XS.ifNo X2.here hexec rfl (hb hbytes d3) rfl (i0_eq_f hz) ?_
    refine XS.aloadN X2.here hexec rfl (hb hbytes d6) rfl rfl ?_
    exact Steps.refl _)
  obtain ⟨T4, X4, q4, st4⟩ := X2.hget hexec hown (wk W (.fieldLink "java/lang/String" 15 "java/lang/String" "coder" "B")) (hx.mv X2.warmed.alike hh2) (g := (mkF m 7 #[.val (.ref x)] [.ref x])) rfl (rest := []) rfl (hb hbytes d7)
  have c5 : Steps p.tables e below (s₁.setTop (entryFrame m #[.ref x] 1)) (T4.setTop (mkF m 14 #[.val (.ref x)] [.int cd])) := (c3.trans (st4 _ (Steps.refl _))).trans (by
    refine XS.goto X4.here hexec rfl (pc0 := 10) rfl (hb hbytes d10) (by decide) rfl ?_
    exact Steps.refl _)
  exact ⟨T4, some (.int cd), _, _, _, X4, rfl, rfl, rfl, (fun h => by cases h), ⟨rfl, q4.trans hh2⟩, fun fs hl => c5.trans (X4.ireturnOut hexec hret (by rcases hc with rfl | rfl <;> rfl) (Or.inr (Or.inr (Or.inl rfl))) (hb hbytes d14) hl)⟩
end Cdr
namespace Len
def yN : MethodName := ⟨"java/lang/String", "length", "()I"⟩
abbrev yB : ByteArray := jdk_42_method_54_code
theorem d0 : decode yB 0 = .ok (.aload_n 0, 1) := by decide +kernel
theorem d1 : decode yB 1 = .ok (.getfield 9, 3) := by decide +kernel
theorem d4 : decode yB 4 = .ok (.arraylength, 1) := by decide +kernel
theorem d5 : decode yB 5 = .ok (.aload_n 0, 1) := by decide +kernel
theorem d6 : decode yB 6 = .ok (.invokevirtual 335, 3) := by decide +kernel
theorem d9 : decode yB 9 = .ok (.ishr, 1) := by decide +kernel
theorem d10 : decode yB 10 = .ok (.ireturn, 1) := by decide +kernel
def site : List Cond := [.fieldLink "java/lang/String" 9 "java/lang/String" "value" "[B", Cdr.tab] ++ virtW "java/lang/String" 335 "java/lang/String" Cdr.yN Cdr.yN
def tab : Cond := tabOf yN yB 1 (some .int) site
def P (x t : Addr) (V : Cell) (cd : Int32) (n : Nat) (f : Nat → Int32) (z : Int32) (args : Array Value) (s : State) : Prop := args = #[.ref x] ∧ Txt x t V cd n f s ∧ StaticIs s "java/lang/String" "COMPACT_STRINGS" "Z" (.int z) ∧ ¬ z = 0
def E (n : Nat) (r : Option Value) (s u : State) : Prop := XT.PureE (some (.int (Int32.ofNat n))) r s u
theorem law (l : Launch) (x t : Addr) (V : Cell) (cd : Int32) (n : Nat) (f : Nat → Int32) (z : Int32) : Law l yN 1 0 1 13 yB 1 (some .int) site (P x t V cd n f z) (E n) [] 0 0 := by
  refine Law.of_walk (plainFor_of_name (by decide +kernel)) (by decide +kernel) (by decide +kernel) (by decide) (fun _ _ h => by rw [h.1]; rfl) (fun _ U U' hal hh h => ⟨h.1, h.2.1.mv hal hh, h.2.2.1.there hal hh, h.2.2.2⟩) (fun r U U' V V' h1 hal h2 h => XT.PureE.mv r U U' V V' h1 hal h2 h) ?_
  intro p e s m args below meth c s₁ X0 hexec hbytes hml hret hlk hnm hown hh0 W hP
  obtain ⟨rfl, hx, s1, hz⟩ := hP
  have v31 := hx.2.2.2.1.2.2.2
  have c1 : Steps p.tables e below (s₁.setTop (entryFrame m #[.ref x] 1)) (s₁.setTop (mkF m 1 #[.val (.ref x)] [.ref x])) := Steps.trans (entry rfl) (by
    show Steps p.tables e below (s₁.setTop (mkF m 0 #[.val (.ref x)] [])) _
    refine XS.aloadN X0.here hexec rfl (hb hbytes d0) rfl rfl ?_
    exact Steps.refl _)
  obtain ⟨T2, X2, q2, st2⟩ := X0.hget hexec hown (wk W (.fieldLink "java/lang/String" 9 "java/lang/String" "value" "[B")) (hx.mv X0.warmed.alike hh0).2.1 (g := (mkF m 1 #[.val (.ref x)] [.ref x])) rfl (rest := []) rfl (hb hbytes d1)
  have hh2 := q2.trans hh0
  have hx2 := hx.mv X2.warmed.alike hh2
  have c3 : Steps p.tables e below (s₁.setTop (entryFrame m #[.ref x] 1)) (T2.setTop (mkF m 6 #[.val (.ref x)] [.ref x, .int (Int32.ofNat V.slots.size)])) := (c1.trans (st2 _ (Steps.refl _))).trans (by
    refine X2.alen hexec hx2.2.2.2.1 rfl rfl (hb hbytes d4) ?_
    refine XS.aloadN X2.here hexec rfl (hb hbytes d5) rfl rfl ?_
    exact Steps.refl _)
  obtain ⟨v4, T4, X4, E4, g4⟩ := X2.callV hexec (Cdr.law l x cd z) hown (wks W (virtW "java/lang/String" 335 "java/lang/String" Cdr.yN Cdr.yN)) rfl (by decide) (wk W Cdr.tab) (W := 1) (Nat.le_of_ble_eq_true rfl) (Nat.le_of_ble_eq_true rfl) (Nat.le_refl _) (Nat.le_refl _) (hx2.1.fc X2.warmed.alike) hx2.1.is (g := (mkF m 6 #[.val (.ref x)] [.ref x, .int (Int32.ofNat V.slots.size)])) rfl (by rw [hml]; rfl) c3 (argsL := []) (rest := [.int (Int32.ofNat V.slots.size)]) rfl rfl (by show 2 * 0 + (1 + 0) ≤ _; decide) (hb hbytes d6) (⟨rfl, hx2.2.2.1, hx.2.2.2.2.1.cd, s1.there X2.warmed.alike hh2, hz⟩)
  obtain ⟨rfl, q4⟩ := E4
  have c5 : Steps p.tables e below (s₁.setTop (entryFrame m #[.ref x] 1)) (T4.setTop (mkF m 10 #[.val (.ref x)] [.int (Int32.ofNat V.slots.size >>> (cd &&& 31))])) := Steps.trans g4 (by
    refine ishr X4.here hexec rfl (hb hbytes d9) rfl ?_
    exact Steps.refl _)
  rw [hx.2.2.2.2.1.len v31] at c5
  exact ⟨T4, some (.int (Int32.ofNat n)), _, _, _, X4, rfl, rfl, rfl, (fun h => by cases h), ⟨rfl, q4.trans hh2⟩, fun fs hl => c5.trans (X4.ireturnOut hexec hret rfl (Or.inl rfl) (hb hbytes d10) hl)⟩
theorem pays {l : Launch} {R : Room} {p : Program} {e : Env} {below : List Frame} {s : State} {sargs : Array Value} {len W : Nat} (x t : Addr) (V : Cell) (cd : Int32) (n : Nat) (f : Nat → Int32) (z : Int32) (htab : tab.before sargs s = true) (hfr : 2 ≤ R.frames) (hlo : W + 25 ≤ R.locals) :
    Back l R p e below s sargs yN len W (fun A₁ a₁ => A₁.cells + 0 ≤ R.cells ∧ A₁.slots + 0 ≤ R.slots ∧ P x t V cd n f z a₁ A₁.U) (fun A₁ _ v₁ B₁ => E n v₁ A₁.U B₁.U ∧ B₁.locs = A₁.locs ++ [] ∧ B₁.cells = A₁.cells + 0 ∧ B₁.slots = A₁.slots + 0) :=
  (law l x t V cd n f z).pays htab hfr (by omega)
end Len
namespace IsL
def yN : MethodName := ⟨"java/lang/String", "isLatin1", "()Z"⟩
abbrev yB : ByteArray := jdk_42_method_154_code
theorem d0 : decode yB 0 = .ok (.getstatic 38, 3) := by decide +kernel
theorem d3 : decode yB 3 = .ok (.ifCond (.eq) 14, 3) := by decide +kernel
theorem d6 : decode yB 6 = .ok (.aload_n 0, 1) := by decide +kernel
theorem d7 : decode yB 7 = .ok (.getfield 15, 3) := by decide +kernel
theorem d10 : decode yB 10 = .ok (.ifCond (.ne) 7, 3) := by decide +kernel
theorem d13 : decode yB 13 = .ok (.iconst 1, 1) := by decide +kernel
theorem d14 : decode yB 14 = .ok (.goto 4, 3) := by decide +kernel
theorem d17 : decode yB 17 = .ok (.iconst 0, 1) := by decide +kernel
theorem d18 : decode yB 18 = .ok (.ireturn, 1) := by decide +kernel
def site : List Cond := [.fieldLink "java/lang/String" 38 "java/lang/String" "COMPACT_STRINGS" "Z", .fieldLink "java/lang/String" 15 "java/lang/String" "coder" "B"]
def tab : Cond := tabOf yN yB 1 (some .boolean) site
def P (x : Addr) (cd z : Int32) (args : Array Value) (s : State) : Prop := args = #[.ref x] ∧ Has x "java/lang/String" "coder" "B" (.int cd) s ∧ (cd = 0 ∨ cd = 1) ∧ StaticIs s "java/lang/String" "COMPACT_STRINGS" "Z" (.int z) ∧ ¬ z = 0
def E (cd : Int32) (r : Option Value) (s u : State) : Prop := XT.PureE (some (.int (1 - cd))) r s u
theorem law (l : Launch) (x : Addr) (cd z : Int32) : Law l yN 1 0 0 0 yB 1 (some .boolean) site (P x cd z) (E cd) [] 0 0 := by
  refine Law.of_walk (plainFor_of_name (by decide +kernel)) (by decide +kernel) (by decide +kernel) (by decide) (fun _ _ h => by rw [h.1]; rfl) (fun _ U U' hal hh h => ⟨h.1, h.2.1.mv hal hh, h.2.2.1, h.2.2.2.1.there hal hh, h.2.2.2.2⟩) (fun r U U' V V' h1 hal h2 h => XT.PureE.mv r U U' V V' h1 hal h2 h) ?_
  intro p e s m args below meth c s₁ X0 hexec hbytes hml hret hlk hnm hown hh0 W hP
  obtain ⟨rfl, hx, hc, s1, hz⟩ := hP
  have c1 : Steps p.tables e below (s₁.setTop (entryFrame m #[.ref x] 1)) (s₁.setTop (mkF m 0 #[.val (.ref x)] [])) := entry rfl
  obtain ⟨T2, X2, q2, st2⟩ := X0.sget hexec hown (wk W (.fieldLink "java/lang/String" 38 "java/lang/String" "COMPACT_STRINGS" "Z")) s1 (fun _ _ h => by rw [hh0]; exact h) (g := (mkF m 0 #[.val (.ref x)] [])) rfl (hb hbytes d0)
  have hh2 := q2.trans hh0
  have c3 : Steps p.tables e below (s₁.setTop (entryFrame m #[.ref x] 1)) (T2.setTop (mkF m 7 #[.val (.ref x)] [.ref x])) := (c1.trans (st2 _ (Steps.refl _))).trans (by
    refine XS.ifNo X2.here hexec rfl (hb hbytes d3) rfl (i0_eq_f hz) ?_
    refine XS.aloadN X2.here hexec rfl (hb hbytes d6) rfl rfl ?_
    exact Steps.refl _)
  obtain ⟨T4, X4, q4, st4⟩ := X2.hget hexec hown (wk W (.fieldLink "java/lang/String" 15 "java/lang/String" "coder" "B")) (hx.mv X2.warmed.alike hh2) (g := (mkF m 7 #[.val (.ref x)] [.ref x])) rfl (rest := []) rfl (hb hbytes d7)
  have c5 : Steps p.tables e below (s₁.setTop (entryFrame m #[.ref x] 1)) (T4.setTop (mkF m 10 #[.val (.ref x)] [.int cd])) := c3.trans (st4 _ (Steps.refl _))
  have c6 : Steps p.tables e below (s₁.setTop (entryFrame m #[.ref x] 1)) (T4.setTop (mkF m 18 #[.val (.ref x)] [.int (1 - cd)])) := by
    rcases hc with rfl | rfl
    · exact c5.trans (by
        refine XS.ifNo X4.here hexec rfl (hb hbytes d10) rfl (i0_ne_f rfl) ?_
        refine iconstV X4.here hexec rfl 1 (hb hbytes d13) (by decide) ?_
        refine XS.goto X4.here hexec rfl (pc0 := 14) rfl (hb hbytes d14) (by decide) rfl ?_
        exact Steps.refl _)
    · exact c5.trans (by
        refine XS.ifYes X4.here hexec rfl (pc0 := 10) rfl (hb hbytes d10) rfl (i0_ne_t (by decide)) (by decide) rfl ?_
        refine iconstV X4.here hexec rfl 0 (hb hbytes d17) (by decide) ?_
        exact Steps.refl _)
  exact ⟨T4, some (.int (1 - cd)), _, _, _, X4, rfl, rfl, rfl, (fun h => by cases h), ⟨rfl, q4.trans hh2⟩, fun fs hl => c6.trans (X4.ireturnOut hexec hret (by rcases hc with rfl | rfl <;> rfl) (Or.inr (Or.inl rfl)) (hb hbytes d18) hl)⟩
end IsL
namespace LChA
def yN : MethodName := ⟨"java/lang/StringLatin1", "charAt", "([BI)C"⟩
abbrev yB : ByteArray := jdk_43_method_2_code
theorem d0 : decode yB 0 = .ok (.iload_n 1, 1) := by decide +kernel
theorem d1 : decode yB 1 = .ok (.aload_n 0, 1) := by decide +kernel
theorem d2 : decode yB 2 = .ok (.arraylength, 1) := by decide +kernel
theorem d3 : decode yB 3 = .ok (.invokestatic 9, 3) := by decide +kernel
theorem d6 : decode yB 6 = .ok (.aload_n 0, 1) := by decide +kernel
theorem d7 : decode yB 7 = .ok (.iload_n 1, 1) := by decide +kernel
theorem d8 : decode yB 8 = .ok (.baload, 1) := by decide +kernel
theorem d9 : decode yB 9 = .ok (.sipush 255, 3) := by decide +kernel
theorem d12 : decode yB 12 = .ok (.iand, 1) := by decide +kernel
theorem d13 : decode yB 13 = .ok (.i2c, 1) := by decide +kernel
theorem d14 : decode yB 14 = .ok (.ireturn, 1) := by decide +kernel
def site : List Cond := [JO.Str_checkIndex.tab] ++ staticW "java/lang/StringLatin1" 9 JO.Str_checkIndex.yN
def tab : Cond := tabOf yN yB 2 (some .char) site
def P (t : Addr) (V : Cell) (i : Nat) (u : Int32) (fm : Value) (args : Array Value) (s : State) : Prop := args = #[.ref t, .int (Int32.ofNat i)] ∧ XT.Arr .byte t V s ∧ V.slots[i]? = some (.int u) ∧ (StaticIs s "jdk/internal/util/Preconditions" "SIOOBE_FORMATTER" "Ljava/util/function/BiFunction;" fm ∧ fm.isRef = true)
def E (u : Int32) (r : Option Value) (s w : State) : Prop := XT.PureE (some (.int (chr8 u))) r s w
theorem law (l : Launch) (t : Addr) (V : Cell) (i : Nat) (u : Int32) (fm : Value) : Law l yN 2 2 2 27 yB 2 (some .char) site (P t V i u fm) (E u) [] 0 0 := by
  refine Law.of_walk (plainFor_of_name (by decide +kernel)) (by decide +kernel) (by decide +kernel) (by decide) (fun _ _ h => by rw [h.1]; rfl) (fun _ U U' hal hh h => ⟨h.1, h.2.1.mv hal hh, h.2.2.1, h.2.2.2.1.there hal hh, h.2.2.2.2⟩) (fun r U U' V V' h1 hal h2 h => XT.PureE.mv r U U' V V' h1 hal h2 h) ?_
  intro p e s m args below meth c s₁ X0 hexec hbytes hml hret hlk hnm hown hh0 W hP
  obtain ⟨rfl, hV, hu, s1, rf⟩ := hP
  have v31 := hV.2.2.2
  have hi : i < V.slots.size := (Array.getElem?_eq_some_iff.mp hu).1
  have c1 : Steps p.tables e below (s₁.setTop (entryFrame m #[.ref t, .int (Int32.ofNat i)] 2)) (s₁.setTop (mkF m 0 #[.val (.ref t), .val (.int (Int32.ofNat i))] [])) := entry rfl
  have c2 : Steps p.tables e below (s₁.setTop (entryFrame m #[.ref t, .int (Int32.ofNat i)] 2)) (s₁.setTop (mkF m 3 #[.val (.ref t), .val (.int (Int32.ofNat i))] [.int (Int32.ofNat V.slots.size), .int (Int32.ofNat i)])) := c1.trans (by
    refine XS.iloadN X0.here hexec rfl (hb hbytes d0) rfl ?_
    refine XS.aloadN X0.here hexec rfl (hb hbytes d1) rfl rfl ?_
    refine X0.alen hexec (hV.mv X0.warmed.alike hh0) rfl rfl (hb hbytes d2) ?_
    exact Steps.refl _)
  obtain ⟨v3, T3, X3, E3, g3⟩ := X0.callS hexec (JO.Str_checkIndex.law l (Int32.ofNat i) (Int32.ofNat V.slots.size) fm) hown (wks W (staticW "java/lang/StringLatin1" 9 JO.Str_checkIndex.yN)) (wk W JO.Str_checkIndex.tab) (W := 0) (Nat.le_of_ble_eq_true rfl) (Nat.le_of_ble_eq_true rfl) (Nat.le_refl _) (Nat.le_refl _) (g := (mkF m 3 #[.val (.ref t), .val (.int (Int32.ofNat i))] [.int (Int32.ofNat V.slots.size), .int (Int32.ofNat i)])) rfl (by rw [hml]; rfl) c2 (argsL := [.int (Int32.ofNat i), .int (Int32.ofNat V.slots.size)]) (rest := []) rfl rfl (by show 2 * 0 + 0 ≤ _; decide) (hb hbytes d3) (⟨rfl, rf, s1.there X0.warmed.alike hh0, Int32.ofNat_not_neg (by omega), lt32 v31 hi⟩)
  obtain ⟨rfl, q3⟩ := E3
  have hh3 := q3.trans hh0
  have c4 : Steps p.tables e below (s₁.setTop (entryFrame m #[.ref t, .int (Int32.ofNat i)] 2)) (T3.setTop (mkF m 14 #[.val (.ref t), .val (.int (Int32.ofNat i))] [.int (chr8 u)])) := Steps.trans g3 (by
    refine XS.aloadN X3.here hexec rfl (hb hbytes d6) rfl rfl ?_
    refine XS.iloadN X3.here hexec rfl (hb hbytes d7) rfl ?_
    refine X3.aget hexec (hV.mv X3.warmed.alike hh3) rfl hu rfl rfl (hb hbytes d8) ?_
    refine sipushV X3.here hexec rfl 255 (hb hbytes d9) (by decide) ?_
    refine XS.iand X3.here hexec rfl (hb hbytes d12) rfl ?_
    refine i2c X3.here hexec rfl (hb hbytes d13) rfl ?_
    exact Steps.refl _)
  exact ⟨T3, some (.int (chr8 u)), _, _, _, X3, rfl, rfl, rfl, (fun h => by cases h), ⟨rfl, hh3⟩, fun fs hl => c4.trans (X3.ireturnOut hexec hret (narrow_c _) (Or.inr (Or.inr (Or.inr (Or.inl rfl)))) (hb hbytes d14) hl)⟩
end LChA
end StrChars
namespace StrChars.Road
open Jvm Sem ClassFile Op Lib Jvm.Stand Jvm.Free Jvm.Free.XT
open Jvm.Lib.Cold (StaticIs)
theorem consq {a : Array Value} {s : State} {c : Jvm.Cond} {L : List Jvm.Cond} (h0 : c.before a s = true) (h : ∀ w ∈ L, w.before a s = true) : ∀ w ∈ c :: L, w.before a s = true := fun w hw => (List.mem_cons.mp hw).elim (fun e => e ▸ h0) (h w)
abbrev wordsLen : List Jvm.Cond := [.code Len.yN Len.yB 1 (some .int), .initialized ST, .fieldLink ST 9 ST "value" "[B", .fieldLink ST 38 ST "COMPACT_STRINGS" "Z", .fieldLink ST 15 ST "coder" "B", .code Cdr.yN Cdr.yB 1 (some .byte), .methodLink ST 335 Cdr.yN, .declares Cdr.yN, .selects ST Cdr.yN Cdr.yN, .instanceMethod Cdr.yN]
theorem tabLen_of {a : Array Value} {s : State} (h : ∀ w ∈ wordsLen, w.before a s = true) : Len.tab.before a s = true := by
  have hc : Cdr.tab.before a s = true := unparts (wk h (.code Cdr.yN Cdr.yB 1 (some .byte))) (wks h (.initialized Cdr.yN.cls :: Cdr.site))
  have q := consq hc h
  exact unparts (wk q (.code Len.yN Len.yB 1 (some .int))) (wks q (.initialized Len.yN.cls :: Len.site))
theorem movedLen {Z s : State} {a0 args : Array Value} (hZ : Z.Warmed39 s.vm) (hw : ∀ d ∈ wordsLen, d.before a0 Z = true) : ∀ d ∈ wordsLen, d.before args s = true := fun d hd => by
  have q := hw d hd
  have t : ∀ d ∈ wordsLen, d = .arrayClass .byte ∨ (d.onTables && d.keepsFace) = true := by decide +kernel
  rcases t d hd with rfl | t
  · exact RoadKit.mvA hZ q
  · exact RoadKit.mv hZ q t
def wideBytes : List Int32 → List Value
  | [] => []
  | c :: cs => .int (lo8 c) :: .int (hi8 c) :: wideBytes cs
theorem wide_lo (d : Value) : ∀ (cs : List Int32) (j : Nat), j < cs.length → (wideBytes cs).getD (2 * j) d = .int (lo8 (cs.getD j 0))
  | [], j, h => absurd h (Nat.not_lt_zero j)
  | c :: cs, 0, _ => rfl
  | c :: cs, j + 1, h => by
    have q := wide_lo d cs j (by simpa using h)
    rw [show 2 * (j + 1) = 2 * j + 1 + 1 from by omega]
    simpa [wideBytes] using q
theorem wide_hi (d : Value) : ∀ (cs : List Int32) (j : Nat), j < cs.length → (wideBytes cs).getD (2 * j + 1) d = .int (hi8 (cs.getD j 0))
  | [], j, h => absurd h (Nat.not_lt_zero j)
  | c :: cs, 0, _ => rfl
  | c :: cs, j + 1, h => by
    have q := wide_hi d cs j (by simpa using h)
    rw [show 2 * (j + 1) + 1 = 2 * j + 1 + 1 + 1 from by omega]
    simpa [wideBytes] using q
theorem low_at (d : Value) (cs : List Int32) (j : Nat) (h : j < cs.length) : (cs.map fun c => Value.int (lo8 c)).getD j d = .int (lo8 (cs.getD j 0)) := by
  simp [List.getD_eq_getElem?_getD, h]
def CodA (cs : List Int32) (cd N2 : Int32) (vs : List Value) : Prop := (cd = 0 ∧ N2 = Int32.ofNat cs.length ∧ vs = (cs.map fun c => Value.int (lo8 c)) ∧ ∀ c ∈ cs, ¬ 255 < c) ∨ (cd = 1 ∧ N2 = Int32.ofNat (2 * cs.length) ∧ vs = wideBytes cs ∧ ∃ c ∈ cs, 255 < c)
theorem CodA.cod {cs : List Int32} {cd N2 : Int32} {vs : List Value} {V : Cell} (h : CodA cs cd N2 vs) (hn : 2 * cs.length < 2 ^ 31) (hs : V.slots.size = N2.toNatClampNeg) (hv : RoadKit.Has V vs (.int 0)) : Cod cd cs.length (fun j => cs.getD j 0) V := by
  rcases h with ⟨rfl, rfl, rfl, h⟩ | ⟨rfl, rfl, rfl, c, hc, hw⟩
  · rw [n32 (by omega)] at hs
    exact Or.inl ⟨rfl, hs, fun j hj => ⟨by rw [hv j (by omega), low_at _ _ _ hj], by
      have e : cs.getD j 0 = cs[j] := by simp [List.getD_eq_getElem?_getD, hj]
      show ¬ 255 < cs.getD j 0
      rw [e]; exact h _ (List.getElem_mem _)⟩⟩
  · rw [n32 (by omega)] at hs
    obtain ⟨j, hj, rfl⟩ := List.getElem_of_mem hc
    exact Or.inr ⟨rfl, hs, fun j hj => ⟨by rw [hv _ (by omega), wide_lo _ _ _ hj], by rw [hv _ (by omega), wide_hi _ _ _ hj]⟩, j, hj, by
      have e : cs.getD j 0 = cs[j] := by simp [List.getD_eq_getElem?_getD, hj]
      show 255 < cs.getD j 0
      rw [e]; exact hw⟩
theorem strObj {Z U : State} {a0 : Array Value} {kI : Nat} (wi : (Jvm.Cond.instantiable ST kI).before a0 Z = true) (al : Z.vm.Alike U.vm) {x : Addr} {v0 c0 : Value} (E : RoadKit.Exa Z U.heap x ST) (V : RoadKit.Fld Z U.heap x ST "value" "[B" v0) (C : RoadKit.Fld Z U.heap x ST "coder" "B" c0) :
    ∃ (D : Cell) (fV fC : Field), Blank ST x D U ∧ Found ST "value" "[B" fV U ∧ Found ST "coder" "B" fC U ∧ D.slots[fV.slot]? = some v0 ∧ D.slots[fC.slot]? = some c0 ∧ RoadKit.slotOf Z ST "value" "[B" = fV.slot ∧ RoadKit.slotOf Z ST "coder" "B" = fC.slot := by
  obtain ⟨D, cfV, kV, iV, fV, hD, gV, stV, knV, obV, asV, slV⟩ := V
  obtain ⟨D', cfC, kC, iC, fC, hD', gC, stC, -, -, asC, slC⟩ := C
  cases hD.symm.trans hD'
  obtain ⟨D2, kD, e1, e2, e3, e4, e5⟩ := E
  cases hD.symm.trans e1
  obtain ⟨c2, k2, i1, i2, i3, -⟩ := Cond.instantiable_spec wi
  cases e2.symm.trans i1
  cases e3.symm.trans i2
  obtain ⟨kU, u1, u2⟩ := al.2.2 _ _ e3
  exact ⟨D, fV, fC, ⟨hD, ⟨knV, fun q hq => by rw [hq] at obV; cases obV⟩, by rw [al.findClass]; exact e2, kU, u1, by rw [u2]; exact i3, by rw [u2]; exact e5 i3⟩, ⟨SBG.found_only al ⟨cfV, kV, iV, gV⟩, stV⟩, ⟨SBG.found_only al ⟨cfC, kC, iC, gC⟩, stC⟩, slV, slC, by simp [RoadKit.slotOf, gV], by simp [RoadKit.slotOf, gC]⟩
theorem sta_is {Z U : State} (al : Z.vm.Alike U.vm) {C n d : String} {v : Value} (S : RoadKit.Sta Z U.heap C n d v) : StaticIs U C n d v := by
  obtain ⟨cfS, iS, kS, fS, st, cS, t1, t2, t3, t4, t5, t6, t7⟩ := S
  exact StaticIs.there (s := { Z with heap := U.heap }) ⟨cfS, iS, kS, fS, st, cS, t1, t2, t3, t4, t5, (fun q => by rw [q] at t6; cases t6), t7⟩ al rfl
theorem lenW {p : Program} {l : Launch} {e : Env} {R : Room} {s : State} {args : Array Value} {below : List Frame} {len W : Nat} {Z : State} {a0 : Array Value} {h : Heap} (hZ : Z.Warmed39 s.vm) (hw : ∀ d ∈ wordsLen, d.before a0 Z = true) {kI : Nat} (wi : (Jvm.Cond.instantiable ST kI).before a0 Z = true)
    {x t : Addr} {kb : ClassId} {cs : List Int32} {cd N2 z : Int32} {vs : List Value} (E : RoadKit.Exa Z h x ST) (V : RoadKit.Fld Z h x ST "value" "[B" (.ref t)) (C : RoadKit.Fld Z h x ST "coder" "B" (.int cd)) (K : RoadKit.Arv Z h t kb .byte N2 vs (.int 0)) (hc : CodA cs cd N2 vs) (hb : ∀ c ∈ cs, ¬ c < 0 ∧ ¬ (65535 : Int32) < c)
    (S : RoadKit.Sta Z h ST "COMPACT_STRINGS" "Z" (.int z)) (hz : ¬ z = 0) (l2 : cs.length ≤ 4000) (hfr : 2 ≤ R.frames) (hlo : W + 25 ≤ R.locals) :
    Back l R p e below s args (⟨"java/lang/String", "length", "()I"⟩ : MethodName) len W (fun P a => a = #[.ref x] ∧ P.U.heap = h ∧ P.cells + 0 ≤ R.cells ∧ P.slots + 0 ≤ R.slots)
      (fun P _ v B => ∃ L, (v = some (.int (Int32.ofNat cs.length)) ∧ L = [] ∧ B.U.heap = h) ∧ B.locs = P.locs ++ L ∧ B.cells = P.cells + 0 ∧ B.slots = P.slots + 0) := by
  obtain ⟨A, K1, K2, K3, K4, K5, K6⟩ := K
  have hcod := hc.cod (by omega) K3 K5
  intro m meth c P g ig mk a X hg hsize hdg hW hn hp'
  obtain ⟨rfl, rfl, r1, r2⟩ := hp'
  have al : Z.vm.Alike P.U.vm := hZ.alike.trans X.warmed.alike
  obtain ⟨D, fV, fC, hB, F1, F2, g1, g2, -, -⟩ := strObj wi al E V C
  have hx : Txt x t A cd cs.length (fun j => cs.getD j 0) P.U := ⟨⟨_, hB.2.2.1, D, hB.1, rfl, by cases q : D.vm <;> first | rfl | exact absurd q (hB.2.1.2 _)⟩, Has.of hB F1 g1, Has.of hB F2 g2, ⟨K1.1, State.isArrayOf_alike al K1.2.1, K1.2.2, by rcases hcod with ⟨-, q, -⟩ | ⟨-, q, -⟩ <;> omega⟩, hcod, fun j hj => by
    have e : cs.getD j 0 = cs[j] := by simp [List.getD_eq_getElem?_getD, hj]
    show ¬ cs.getD j 0 < 0 ∧ ¬ 65535 < cs.getD j 0
    rw [e]; exact hb _ (List.getElem_mem _)⟩
  obtain ⟨v, B, X', ⟨⟨hv, hh⟩, hl, hk, hs⟩, st⟩ := Len.pays x t A cd cs.length (fun j => cs.getD j 0) z (tabLen_of (movedLen hZ hw)) hfr hlo m meth c P g ig mk _ X hg hsize hdg hW hn ⟨r1, r2, rfl, hx, sta_is al S, hz⟩
  exact ⟨v, B, X', ⟨[], ⟨hv, rfl, hh⟩, hl, hk, hs⟩, st⟩
end StrChars.Road
namespace StrChars.Road
open Jvm Sem ClassFile Op Lib Jvm.Stand Jvm.Free Jvm.Free.XT
open Jvm.Lib.Cold (StaticIs)
theorem txt_of {Z U : State} {a0 : Array Value} {kI : Nat} (wi : (Jvm.Cond.instantiable ST kI).before a0 Z = true) (al : Z.vm.Alike U.vm) {x t : Addr} {kb : ClassId} {cs : List Int32} {cd N2 : Int32} {vs : List Value} (E : RoadKit.Exa Z U.heap x ST) (V : RoadKit.Fld Z U.heap x ST "value" "[B" (.ref t)) (C : RoadKit.Fld Z U.heap x ST "coder" "B" (.int cd)) (K : RoadKit.Arv Z U.heap t kb .byte N2 vs (.int 0)) (hc : CodA cs cd N2 vs) (hb : ∀ c ∈ cs, ¬ c < 0 ∧ ¬ (65535 : Int32) < c) (l2 : cs.length ≤ 4000) :
    ∃ A, Txt x t A cd cs.length (fun j => cs.getD j 0) U := by
  obtain ⟨A, K1, K2, K3, K4, K5, K6⟩ := K
  have hcod := hc.cod (by omega) K3 K5
  obtain ⟨D, fV, fC, hB, F1, F2, g1, g2, -, -⟩ := strObj wi al E V C
  exact ⟨A, ⟨_, hB.2.2.1, D, hB.1, rfl, by cases q : D.vm <;> first | rfl | exact absurd q (hB.2.1.2 _)⟩, Has.of hB F1 g1, Has.of hB F2 g2, ⟨K1.1, State.isArrayOf_alike al K1.2.1, K1.2.2, by rcases hcod with ⟨-, q, -⟩ | ⟨-, q, -⟩ <;> omega⟩, hcod, fun j hj => by
    have e : cs.getD j 0 = cs[j] := by simp [List.getD_eq_getElem?_getD, hj]
    show ¬ cs.getD j 0 < 0 ∧ ¬ 65535 < cs.getD j 0
    rw [e]; exact hb _ (List.getElem_mem _)⟩
end StrChars.Road
namespace StrChars
open Jvm Sem ClassFile Op Lib Jvm.Stand Jvm.Free.XT Jvm.Free.ALB Jvm.Free.JM Jvm.Free
open Jvm.Lib.Cold (StaticIs)
namespace ChN
def yN : MethodName := ⟨"java/lang/String", "charAt", "(I)C"⟩
abbrev yB : ByteArray := jdk_42_method_56_code
theorem d0 : decode yB 0 = .ok (.aload_n 0, 1) := by decide +kernel
theorem d1 : decode yB 1 = .ok (.invokevirtual 492, 3) := by decide +kernel
theorem d4 : decode yB 4 = .ok (.ifCond (.eq) 12, 3) := by decide +kernel
theorem d7 : decode yB 7 = .ok (.aload_n 0, 1) := by decide +kernel
theorem d8 : decode yB 8 = .ok (.getfield 9, 3) := by decide +kernel
theorem d11 : decode yB 11 = .ok (.iload_n 1, 1) := by decide +kernel
theorem d12 : decode yB 12 = .ok (.invokestatic 495, 3) := by decide +kernel
theorem d15 : decode yB 15 = .ok (.ireturn, 1) := by decide +kernel
def site : List Cond := [.fieldLink "java/lang/String" 9 "java/lang/String" "value" "[B", IsL.tab, LChA.tab] ++ virtW "java/lang/String" 492 "java/lang/String" IsL.yN IsL.yN ++ staticW "java/lang/String" 495 LChA.yN
def tab : Cond := tabOf yN yB 2 (some .char) site
def P (x t : Addr) (V : Cell) (n : Nat) (f : Nat → Int32) (z : Int32) (fm : Value) (i : Nat) (args : Array Value) (s : State) : Prop := args = #[.ref x, .int (Int32.ofNat i)] ∧ Txt x t V 0 n f s ∧ i < n ∧ StaticIs s "java/lang/String" "COMPACT_STRINGS" "Z" (.int z) ∧ ¬ z = 0 ∧ StaticIs s "jdk/internal/util/Preconditions" "SIOOBE_FORMATTER" "Ljava/util/function/BiFunction;" fm ∧ fm.isRef = true
def E (f : Nat → Int32) (i : Nat) (r : Option Value) (s u : State) : Prop := XT.PureE (some (.int (f i))) r s u
theorem law (l : Launch) (x t : Addr) (V : Cell) (n : Nat) (f : Nat → Int32) (z : Int32) (fm : Value) (i : Nat) : Law l yN 2 1 3 40 yB 2 (some .char) site (P x t V n f z fm i) (E f i) [] 0 0 := by
  refine Law.of_walk (plainFor_of_name (by decide +kernel)) (by decide +kernel) (by decide +kernel) (by decide) (fun _ _ h => by rw [h.1]; rfl) (fun _ U U' hal hh h => ⟨h.1, h.2.1.mv hal hh, h.2.2.1, h.2.2.2.1.there hal hh, h.2.2.2.2.1, h.2.2.2.2.2.1.there hal hh, h.2.2.2.2.2.2⟩) (fun r U U' V V' h1 hal h2 h => XT.PureE.mv r U U' V V' h1 hal h2 h) ?_
  intro p e s m args below meth c s₁ X0 hexec hbytes hml hret hlk hnm hown hh0 W hP
  obtain ⟨rfl, hx, hi, s1, hz, s3, rf⟩ := hP
  have v31 := hx.2.2.2.1.2.2.2
  have hr := hx.2.2.2.2.2 i hi
  have hx0 := hx.mv X0.warmed.alike hh0
  have c1 : Steps p.tables e below (s₁.setTop (entryFrame m #[.ref x, .int (Int32.ofNat i)] 2)) (s₁.setTop (mkF m 1 #[.val (.ref x), .val (.int (Int32.ofNat i))] [.ref x])) := Steps.trans (entry rfl) (by
    show Steps p.tables e below (s₁.setTop (mkF m 0 #[.val (.ref x), .val (.int (Int32.ofNat i))] [])) _
    refine XS.aloadN X0.here hexec rfl (hb hbytes d0) rfl rfl ?_
    exact Steps.refl _)
  obtain ⟨v2, T2, X2, E2, g2⟩ := X0.callV hexec (IsL.law l x 0 z) hown (wks W (virtW "java/lang/String" 492 "java/lang/String" IsL.yN IsL.yN)) rfl (by decide) (wk W IsL.tab) (W := 0) (Nat.le_of_ble_eq_true rfl) (Nat.le_of_ble_eq_true rfl) (Nat.le_refl _) (Nat.le_refl _) (hx0.1.fc X0.warmed.alike) hx0.1.is (g := (mkF m 1 #[.val (.ref x), .val (.int (Int32.ofNat i))] [.ref x])) rfl (by rw [hml]; rfl) c1 (argsL := []) (rest := []) rfl rfl (by show 2 * 0 + 0 ≤ _; decide) (hb hbytes d1) (⟨rfl, hx0.2.2.1, hx.2.2.2.2.1.cd, s1.there X0.warmed.alike hh0, hz⟩)
  obtain ⟨rfl, q2⟩ := E2
  have hh2 := q2.trans hh0
  have hx2 := hx.mv X2.warmed.alike hh2
  obtain ⟨-, k1, k2⟩ | ⟨k0, -⟩ := hx.2.2.2.2.1
  · have c3 : Steps p.tables e below (s₁.setTop (entryFrame m #[.ref x, .int (Int32.ofNat i)] 2)) (T2.setTop (mkF m 8 #[.val (.ref x), .val (.int (Int32.ofNat i))] [.ref x])) := Steps.trans g2 (by
      refine XS.ifNo X2.here hexec rfl (hb hbytes d4) rfl (i0_eq_f (by decide)) ?_
      refine XS.aloadN X2.here hexec rfl (hb hbytes d7) rfl rfl ?_
      exact Steps.refl _)
    obtain ⟨T4, X4, q4, st4⟩ := X2.hget hexec hown (wk W (.fieldLink "java/lang/String" 9 "java/lang/String" "value" "[B")) hx2.2.1 (g := (mkF m 8 #[.val (.ref x), .val (.int (Int32.ofNat i))] [.ref x])) rfl (rest := []) rfl (hb hbytes d8)
    have hh4 := q4.trans hh2
    have c5 : Steps p.tables e below (s₁.setTop (entryFrame m #[.ref x, .int (Int32.ofNat i)] 2)) (T4.setTop (mkF m 12 #[.val (.ref x), .val (.int (Int32.ofNat i))] [.int (Int32.ofNat i), .ref t])) := (c3.trans (st4 _ (Steps.refl _))).trans (by
      refine XS.iloadN X4.here hexec rfl (hb hbytes d11) rfl ?_
      exact Steps.refl _)
    obtain ⟨v6, T6, X6, E6, g6⟩ := X4.callS hexec (LChA.law l t V i (lo8 (f i)) fm) hown (wks W (staticW "java/lang/String" 495 LChA.yN)) (wk W LChA.tab) (W := 0) (Nat.le_of_ble_eq_true rfl) (Nat.le_of_ble_eq_true rfl) (Nat.le_refl _) (Nat.le_refl _) (g := (mkF m 12 #[.val (.ref x), .val (.int (Int32.ofNat i))] [.int (Int32.ofNat i), .ref t])) rfl (by rw [hml]; rfl) c5 (argsL := [.ref t, .int (Int32.ofNat i)]) (rest := []) rfl rfl (by show 2 * 0 + 0 ≤ _; decide) (hb hbytes d12) (⟨rfl, hx.2.2.2.1.mv X4.warmed.alike hh4, (k2 i hi).1, s3.there X4.warmed.alike hh4, rf⟩)
    obtain ⟨rfl, q6⟩ := E6
    rw [chr8_lo8 hr.1 (k2 i hi).2] at g6
    exact ⟨T6, some (.int (f i)), _, _, _, X6, rfl, rfl, rfl, (fun h => by cases h), ⟨rfl, q6.trans hh4⟩, fun fs hl => Steps.trans g6 (X6.ireturnOut hexec hret (narrow_ch hr.1 hr.2) (Or.inr (Or.inr (Or.inr (Or.inl rfl)))) (hb hbytes d15) hl)⟩
  · exact absurd k0 (by decide)
theorem pays {l : Launch} {R : Room} {p : Program} {e : Env} {below : List Frame} {s : State} {sargs : Array Value} {len W : Nat} (x t : Addr) (V : Cell) (n : Nat) (f : Nat → Int32) (z : Int32) (fm : Value) (i : Nat) (htab : tab.before sargs s = true) (hfr : 4 ≤ R.frames) (hlo : W + 53 ≤ R.locals) :
    Back l R p e below s sargs yN len W (fun A₁ a₁ => A₁.cells + 0 ≤ R.cells ∧ A₁.slots + 0 ≤ R.slots ∧ P x t V n f z fm i a₁ A₁.U) (fun A₁ _ v₁ B₁ => E f i v₁ A₁.U B₁.U ∧ B₁.locs = A₁.locs ++ [] ∧ B₁.cells = A₁.cells + 0 ∧ B₁.slots = A₁.slots + 0) :=
  (law l x t V n f z fm i).pays htab hfr (by omega)
end ChN
end StrChars
namespace StrChars.Road
open Jvm Sem ClassFile Op Lib Jvm.Stand Jvm.Free Jvm.Free.XT
open Jvm.Lib.Cold (StaticIs)
abbrev wordsChN : List Jvm.Cond := [.code ChN.yN ChN.yB 2 (some .char), .initialized ST, .fieldLink ST 9 ST "value" "[B", .fieldLink ST 38 ST "COMPACT_STRINGS" "Z", .fieldLink ST 15 ST "coder" "B", .code IsL.yN IsL.yB 1 (some .boolean), .methodLink ST 492 IsL.yN, .declares IsL.yN, .selects ST IsL.yN IsL.yN, .instanceMethod IsL.yN,
  .methodLink ST 495 LChA.yN, .static LChA.yN, .code LChA.yN LChA.yB 2 (some .char), .initialized "java/lang/StringLatin1", .methodLink "java/lang/StringLatin1" 9 JO.Str_checkIndex.yN, .static JO.Str_checkIndex.yN, .code JO.Str_checkIndex.yN JO.Str_checkIndex.yB 2 none,
  .fieldLink ST 1053 "jdk/internal/util/Preconditions" "SIOOBE_FORMATTER" "Ljava/util/function/BiFunction;", .methodLink ST 1059 JC.PreCheck.yN, .static JC.PreCheck.yN, .code JC.PreCheck.yN JC.PreCheck.yB 3 (some .int), .initialized "jdk/internal/util/Preconditions"]
theorem tabChN_of {a : Array Value} {s : State} (h : ∀ w ∈ wordsChN, w.before a s = true) : ChN.tab.before a s = true := by
  have hp : JC.PreCheck.tab.before a s = true := unparts (wk h (.code JC.PreCheck.yN JC.PreCheck.yB 3 (some .int))) (wks h (.initialized JC.PreCheck.yN.cls :: JC.PreCheck.site))
  have qk := consq hp h
  have hk : JO.Str_checkIndex.tab.before a s = true := unparts (wk qk (.code JO.Str_checkIndex.yN JO.Str_checkIndex.yB 2 none)) (wks qk (.initialized JO.Str_checkIndex.yN.cls :: JO.Str_checkIndex.site))
  have ql := consq hk h
  have hl : LChA.tab.before a s = true := unparts (wk ql (.code LChA.yN LChA.yB 2 (some .char))) (wks ql (.initialized LChA.yN.cls :: LChA.site))
  have hi : IsL.tab.before a s = true := unparts (wk h (.code IsL.yN IsL.yB 1 (some .boolean))) (wks h (.initialized IsL.yN.cls :: IsL.site))
  have q := consq hi (consq hl h)
  exact unparts (wk q (.code ChN.yN ChN.yB 2 (some .char))) (wks q (.initialized ChN.yN.cls :: ChN.site))
theorem movedChN {Z s : State} {a0 args : Array Value} (hZ : Z.Warmed39 s.vm) (hw : ∀ d ∈ wordsChN, d.before a0 Z = true) : ∀ d ∈ wordsChN, d.before args s = true := fun d hd => by
  have t : ∀ d ∈ wordsChN, (d.onTables && d.keepsFace) = true := by decide +kernel
  exact RoadKit.mv hZ (hw d hd) (t d hd)
theorem chN {p : Program} {l : Launch} {e : Env} {R : Room} {s : State} {args : Array Value} {below : List Frame} {len W : Nat} {Z : State} {a0 : Array Value} {h : Heap} (hZ : Z.Warmed39 s.vm) (hw : ∀ d ∈ wordsChN, d.before a0 Z = true) {kI : Nat} (wi : (Jvm.Cond.instantiable ST kI).before a0 Z = true)
    {x t : Addr} {kb : ClassId} {cs : List Int32} {N2 z : Int32} {vs : List Value} {fm : Value} {i : Nat} {j : Int32} (E : RoadKit.Exa Z h x ST) (V : RoadKit.Fld Z h x ST "value" "[B" (.ref t)) (C : RoadKit.Fld Z h x ST "coder" "B" (.int 0)) (K : RoadKit.Arv Z h t kb .byte N2 vs (.int 0)) (hc : CodA cs 0 N2 vs) (hb : ∀ c ∈ cs, ¬ c < 0 ∧ ¬ (65535 : Int32) < c)
    (S : RoadKit.Sta Z h ST "COMPACT_STRINGS" "Z" (.int z)) (hz : ¬ z = 0) (F : RoadKit.Sta Z h "jdk/internal/util/Preconditions" "SIOOBE_FORMATTER" "Ljava/util/function/BiFunction;" fm) (rf : fm.isRef = true) (l2 : cs.length ≤ 4000) (hi : i < cs.length) (hj : j = Int32.ofNat i) (hfr : 4 ≤ R.frames) (hlo : W + 53 ≤ R.locals) :
    Back l R p e below s args (⟨"java/lang/String", "charAt", "(I)C"⟩ : MethodName) len W (fun P a => a = #[.ref x, .int j] ∧ P.U.heap = h ∧ P.cells + 0 ≤ R.cells ∧ P.slots + 0 ≤ R.slots)
      (fun P _ v B => ∃ L, (v = some (.int (cs.getD i 0)) ∧ L = [] ∧ B.U.heap = h) ∧ B.locs = P.locs ++ L ∧ B.cells = P.cells + 0 ∧ B.slots = P.slots + 0) := by
  subst hj
  intro m meth c P g ig mk a X hg hsize hdg hW hn hp'
  obtain ⟨rfl, rfl, r1, r2⟩ := hp'
  have al : Z.vm.Alike P.U.vm := hZ.alike.trans X.warmed.alike
  obtain ⟨A, hx⟩ := txt_of wi al E V C K hc hb l2
  obtain ⟨v, B, X', ⟨⟨hv, hh⟩, hl, hk, hs⟩, st⟩ := ChN.pays x t A cs.length (fun j => cs.getD j 0) z fm i (tabChN_of (movedChN hZ hw)) hfr hlo m meth c P g ig mk _ X hg hsize hdg hW hn ⟨r1, r2, rfl, hx, hi, sta_is al S, hz, sta_is al F, rf⟩
  exact ⟨v, B, X', ⟨[], ⟨hv, rfl, hh⟩, hl, hk, hs⟩, st⟩
end StrChars.Road
end Jvm.Pilot.@@N@@
namespace Jvm.Pilot.@@N@@
open Jvm Jvm.ClassFile Sem Op Lib Jvm.Free Jvm.Stand Jvm.LawKit Jvm.RoadKit Bundle Jvm.Pilot.@@N@@.Jvm.D
set_option maxRecDepth 65536
set_option maxHeartbeats 40000000
abbrev mq0 : MethodName := ⟨"com/example/qedbox/qedbox/cli/TupleLines", "escape", "(Ljava/lang/String;)Ljava/lang/String;"⟩
abbrev mq1 : MethodName := ⟨"com/example/qedbox/qedbox/cli/TupleLinesEscapePinLaw", "pick", "(I)C"⟩
abbrev mq2 : MethodName := ⟨"com/example/qedbox/qedbox/cli/TupleLinesEscapePinLaw", "step", "(Ljava/lang/String;IC)I"⟩
abbrev mq3 : MethodName := ⟨"java/lang/AbstractStringBuilder", "<init>", "(I)V"⟩
abbrev mq4 : MethodName := ⟨"java/lang/AbstractStringBuilder", "append", "(C)Ljava/lang/AbstractStringBuilder;"⟩
abbrev mq5 : MethodName := ⟨"java/lang/AbstractStringBuilder", "append", "(Ljava/lang/String;)Ljava/lang/AbstractStringBuilder;"⟩
abbrev mq6 : MethodName := ⟨"java/lang/AbstractStringBuilder", "ensureCapacityInternal", "(I)V"⟩
abbrev mq7 : MethodName := ⟨"java/lang/AbstractStringBuilder", "getValue", "()[B"⟩
abbrev mq8 : MethodName := ⟨"java/lang/AbstractStringBuilder", "inflate", "()V"⟩
abbrev mq9 : MethodName := ⟨"java/lang/AbstractStringBuilder", "inflateIfNeededFor", "(Ljava/lang/String;)V"⟩
abbrev mq10 : MethodName := ⟨"java/lang/AbstractStringBuilder", "isLatin1", "()Z"⟩
abbrev mq11 : MethodName := ⟨"java/lang/AbstractStringBuilder", "length", "()I"⟩
abbrev mq12 : MethodName := ⟨"java/lang/AbstractStringBuilder", "newCapacity", "(I)I"⟩
abbrev mq13 : MethodName := ⟨"java/lang/AbstractStringBuilder", "putStringAt", "(ILjava/lang/String;)V"⟩
abbrev mq14 : MethodName := ⟨"java/lang/Math", "max", "(II)I"⟩
abbrev mq15 : MethodName := ⟨"java/lang/Math", "min", "(II)I"⟩
abbrev mq16 : MethodName := ⟨"java/lang/String", "<init>", "(Ljava/lang/AbstractStringBuilder;Ljava/lang/Void;)V"⟩
abbrev mq17 : MethodName := ⟨"java/lang/String", "<init>", "(Ljava/lang/StringBuilder;)V"⟩
abbrev mq18 : MethodName := ⟨"java/lang/String", "<init>", "([C)V"⟩
abbrev mq19 : MethodName := ⟨"java/lang/String", "<init>", "([CIILjava/lang/Void;)V"⟩
abbrev mq20 : MethodName := ⟨"java/lang/String", "charAt", "(I)C"⟩
abbrev mq21 : MethodName := ⟨"java/lang/String", "checkBoundsOffCount", "(III)I"⟩
abbrev mq22 : MethodName := ⟨"java/lang/String", "checkIndex", "(II)V"⟩
abbrev mq23 : MethodName := ⟨"java/lang/String", "coder", "()B"⟩
abbrev mq24 : MethodName := ⟨"java/lang/String", "getBytes", "([BIB)V"⟩
abbrev mq25 : MethodName := ⟨"java/lang/String", "isLatin1", "()Z"⟩
abbrev mq26 : MethodName := ⟨"java/lang/String", "length", "()I"⟩
abbrev mq27 : MethodName := ⟨"java/lang/StringBuilder", "<init>", "(I)V"⟩
abbrev mq28 : MethodName := ⟨"java/lang/StringBuilder", "append", "(C)Ljava/lang/StringBuilder;"⟩
abbrev mq29 : MethodName := ⟨"java/lang/StringBuilder", "append", "(Ljava/lang/String;)Ljava/lang/StringBuilder;"⟩
abbrev mq30 : MethodName := ⟨"java/lang/StringBuilder", "length", "()I"⟩
abbrev mq31 : MethodName := ⟨"java/lang/StringBuilder", "toString", "()Ljava/lang/String;"⟩
abbrev mq32 : MethodName := ⟨"java/lang/StringLatin1", "canEncode", "(C)Z"⟩
abbrev mq33 : MethodName := ⟨"java/lang/StringLatin1", "inflate", "([BI[BII)V"⟩
abbrev mq34 : MethodName := ⟨"java/lang/StringUTF16", "charAt", "([BI)C"⟩
abbrev mq35 : MethodName := ⟨"java/lang/StringUTF16", "checkBoundsOffCount", "(II[B)V"⟩
abbrev mq36 : MethodName := ⟨"java/lang/StringUTF16", "checkIndex", "(I[B)V"⟩
abbrev mq37 : MethodName := ⟨"java/lang/StringUTF16", "coderFromArrayLen", "([BI)B"⟩
abbrev mq38 : MethodName := ⟨"java/lang/StringUTF16", "compress", "([CII)[B"⟩
abbrev mq39 : MethodName := ⟨"java/lang/StringUTF16", "compress", "([CI[BII)I"⟩
abbrev mq40 : MethodName := ⟨"java/lang/StringUTF16", "getChar", "([BI)C"⟩
abbrev mq41 : MethodName := ⟨"java/lang/StringUTF16", "inflate", "([BI[BII)V"⟩
abbrev mq42 : MethodName := ⟨"java/lang/StringUTF16", "length", "([B)I"⟩
abbrev mq43 : MethodName := ⟨"java/lang/StringUTF16", "newBytesFor", "(I)[B"⟩
abbrev mq44 : MethodName := ⟨"java/lang/StringUTF16", "newBytesLength", "(I)I"⟩
abbrev mq45 : MethodName := ⟨"java/lang/StringUTF16", "putChar", "([BII)V"⟩
abbrev mq46 : MethodName := ⟨"java/lang/StringUTF16", "putCharSB", "([BII)V"⟩
abbrev mq47 : MethodName := ⟨"java/lang/StringUTF16", "toBytes", "([CII)[B"⟩
abbrev mq48 : MethodName := ⟨"java/util/Arrays", "checkLength", "(II)V"⟩
abbrev mq49 : MethodName := ⟨"java/util/Arrays", "copyOf", "([BI)[B"⟩
abbrev mq50 : MethodName := ⟨"java/util/Arrays", "copyOfRange", "([BII)[B"⟩
abbrev mq51 : MethodName := ⟨"java/util/Arrays", "copyOfRangeByte", "([BII)[B"⟩
abbrev mq52 : MethodName := ⟨"jdk/internal/util/ArraysSupport", "newLength", "(III)I"⟩
abbrev mq53 : MethodName := ⟨"jdk/internal/util/Preconditions", "checkFromIndexSize", "(IIILjava/util/function/BiFunction;)I"⟩
abbrev mq54 : MethodName := ⟨"jdk/internal/util/Preconditions", "checkIndex", "(IILjava/util/function/BiFunction;)I"⟩
abbrev sq0 : String := "com/example/qedbox/qedbox/cli/TupleLines"
abbrev sq1 : String := "com/example/qedbox/qedbox/cli/TupleLinesEscapePinLaw"
abbrev sq2 : String := "java/lang/AbstractStringBuilder"
abbrev sq3 : String := "java/lang/String"
abbrev sq4 : String := "java/lang/StringBuilder"
abbrev sq5 : String := "java/lang/StringUTF16"
abbrev sq6 : String := "jdk/internal/util/Preconditions"
abbrev rq0 : Room := ({ frames := 0, cells := 0, slots := 0, locals := 0 } : Room)
abbrev rq1 : Room := ({ frames := 0, cells := 0, slots := 0, locals := 20 } : Room)
abbrev rq2 : Room := ({ frames := 1, cells := 0, slots := 0, locals := 12 } : Room)
abbrev rq3 : Room := ({ frames := 1, cells := 0, slots := 0, locals := 13 } : Room)
abbrev rq4 : Room := ({ frames := 1, cells := 0, slots := 0, locals := 14 } : Room)
abbrev rq5 : Room := ({ frames := 1, cells := 0, slots := 0, locals := 20 } : Room)
abbrev rq6 : Room := ({ frames := 1, cells := 1, slots := 24, locals := 40 } : Room)
abbrev rq7 : Room := ({ frames := 1, cells := 4, slots := 8, locals := 40 } : Room)
abbrev rq8 : Room := ({ frames := 2, cells := 0, slots := 0, locals := 27 } : Room)
abbrev rq9 : Room := ({ frames := 2, cells := 0, slots := 0, locals := 29 } : Room)
abbrev rq10 : Room := ({ frames := 2, cells := 4, slots := 8, locals := 70 } : Room)
abbrev rq11 : Room := ({ frames := 3, cells := 0, slots := 0, locals := 40 } : Room)
abbrev rq12 : Room := ({ frames := 3, cells := 1, slots := 24, locals := 60 } : Room)
abbrev rq13 : Room := ({ frames := 3, cells := 1, slots := 6, locals := 60 } : Room)
abbrev rq14 : Room := ({ frames := 4, cells := 0, slots := 0, locals := 70 } : Room)
abbrev rq15 : Room := ({ frames := 4, cells := 1, slots := 24, locals := 75 } : Room)
abbrev rq16 : Room := ({ frames := 4, cells := 1, slots := 3, locals := 80 } : Room)
abbrev rq17 : Room := ({ frames := 5, cells := 0, slots := 0, locals := 87 } : Room)
abbrev rq18 : Room := ({ frames := 5, cells := 1, slots := 24, locals := 100 } : Room)
abbrev rq19 : Room := ({ frames := 5, cells := 1, slots := 24, locals := 91 } : Room)
abbrev rq20 : Room := ({ frames := 7, cells := 0, slots := 0, locals := 110 } : Room)
abbrev rq21 : Room := ({ frames := 8, cells := 1, slots := 24, locals := 140 } : Room)
abbrev rq22 : Room := ({ frames := 8, cells := 2, slots := 28, locals := 130 } : Room)
abbrev rq23 : Room := ({ frames := 8, cells := 2, slots := 48, locals := 130 } : Room)
abbrev rq24 : Room := ({ frames := 9, cells := 1, slots := 24, locals := 165 } : Room)
abbrev rq25 : Room := ({ frames := 9, cells := 2, slots := 48, locals := 150 } : Room)
theorem tw {Z : State} {a0 : Array Value} (hw : ∀ d ∈ tables_1, d.before a0 Z = true) (i : Nat) {d : Jvm.Cond} (h : tables_1[i]? = some d) : d.before a0 Z = true := hw d (List.mem_of_getElem? h)
abbrev MF (l : Launch) (Z : State) (y : MethodName) (cd : Jvm.Cond) (ws : List Jvm.Cond) (rm : Room) (A : Array Value) (h0 : Heap) (Q : Option Value → Heap → List Loc → Prop) : Prop := MetFree l y (head1 (cd :: ws) rm) (fun a U => a = A ∧ Z.Warmed39 U.vm ∧ U.heap = h0) (fun _ _ _ _ _ => True) (fun _ U o U' => ∃ v L, o = .returned v ∧ Q v U'.heap L ∧ FrameEnd U o U' L rm.cells rm.slots)
def Fine (p : Program) (e : Env) (below : List Frame) (s : State) (n0 : Nat) (S0 : State) : Prop := ∃ s₂ o, Steps p.tables e below S0 s₂ ∧ s₂.status = .running ∧ Ended s₂ below o ∧ ∃ v L, o = .returned v ∧ (v = some (.int (1 : Int32)) ∧ Fr n0 L) ∧ FrameEnd s o s₂ L room_1.cells room_1.slots
theorem Fine.pre {p : Program} {e : Env} {below : List Frame} {s S0 S1 : State} {n0 : Nat} (k : ∀ t, Steps p.tables e below S1 t → Steps p.tables e below S0 t) (h : Fine p e below s n0 S1) : Fine p e below s n0 S0 := by
  obtain ⟨u, o, h1, h2⟩ := h; exact ⟨u, o, k _ h1, h2⟩
def FineW (p : Program) (e : Env) (below : List Frame) (s : State) (n0 : Nat) (S0 : State) : Prop := ∃ s₂ o, Steps p.tables e below S0 s₂ ∧ s₂.status = .running ∧ Ended s₂ below o ∧ ∃ v L, o = .returned v ∧ (v = some (.int (1 : Int32)) ∧ Fr n0 L) ∧ ReturnedEndW s o s₂ L room_1.cells room_1.slots
theorem FineW.pre {p : Program} {e : Env} {below : List Frame} {s S0 S1 : State} {n0 : Nat} (k : ∀ t, Steps p.tables e below S1 t → Steps p.tables e below S0 t) (h : FineW p e below s n0 S1) : FineW p e below s n0 S0 := by
  obtain ⟨u, o, h1, h2⟩ := h; exact ⟨u, o, k _ h1, h2⟩
theorem own_enter {l : Launch} {Z : State} {y : MethodName} {bytes : ByteArray} {maxL : Nat} {rt : Option FieldType} {ws : List Jvm.Cond} {rm : Room} {A : Array Value} {h0 : Heap} {Q : Option Value → Heap → List Loc → Prop} (hp : plainFor y = true)
    (k : ∀ (p : Program) (e : Env) (s : State) (m : MethodId) (below : List Frame) (meth : Method) (c : Code) (s₁ : State), Stand p l e rm s m A below meth c s₁ [] 0 0 → p.tables.exec = Jvm.exec → c.code = bytes → c.maxLocals = maxL → s.vm.findClass y.cls = some m.cls → meth.name = y.name → Z.Warmed39 s.vm → s₁.heap = h0 → meth.sig.returnType = rt → meth.locks = false →
      ∃ s₂ o, Steps p.tables e below (s₁.setTop (entryFrame m A maxL)) s₂ ∧ s₂.status = .running ∧ Ended s₂ below o ∧ ∃ v L, o = .returned v ∧ Q v s₂.heap L ∧ FrameEnd s o s₂ L rm.cells rm.slots) : MF l Z y (Jvm.Cond.code y bytes maxL rt) ws rm A h0 Q := by
  refine MetFree.of_bodySF hp hisR ?_
  intro p e s m args below meth c s₁ Bd hml0 hP hK
  obtain ⟨rfl, hZ, hh⟩ := hP
  exact k p e s m below meth c s₁ (Stand.of_body Bd) Bd.exec Bd.bytes hml0 (findClass_of_methodNamed Bd.named) (name_of_methodNamed Bd.named Bd.method).1 hZ (by rw [← hh, Bd.state]; rfl) Bd.returns (by first | assumption | exact BodyLoose.notSynchronized Bd | exact Body.notSynchronized Bd)
abbrev SF (p : Program) (e : Env) (below : List Frame) (T : State) (g : JFrame) (t : State) : Prop := Steps p.tables e below (T.setTop g) t
abbrev HW (Z : State) (a0 : Array Value) : Prop := ∀ d ∈ tables_1, d.before a0 Z = true
def Fin (p : Program) (e : Env) (below : List Frame) (s : State) (ce sl : Nat) (Q : Option Value → Heap → List Loc → Prop) (S0 : State) : Prop := ∃ s₂ o, Steps p.tables e below S0 s₂ ∧ s₂.status = .running ∧ Ended s₂ below o ∧ ∃ v L, o = .returned v ∧ Q v s₂.heap L ∧ FrameEnd s o s₂ L ce sl
theorem Fin.pre {p : Program} {e : Env} {below : List Frame} {s S0 S1 : State} {ce sl : Nat} {Q : Option Value → Heap → List Loc → Prop} (k : ∀ t, Steps p.tables e below S1 t → Steps p.tables e below S0 t) (h : Fin p e below s ce sl Q S1) : Fin p e below s ce sl Q S0 := by
  obtain ⟨u, o, h1, h2⟩ := h; exact ⟨u, o, k _ h1, h2⟩
theorem own_mf {l : Launch} {Z : State} {y : MethodName} {cd : Jvm.Cond} {ws : List Jvm.Cond} {rm : Room} {A : Array Value} {h0 : Heap} {Q Q' : Option Value → Heap → List Loc → Prop} (hM : MF l Z y cd ws rm A h0 Q) (k : ∀ v h L, Q v h L → Q' v h L) : MF l Z y cd ws rm A h0 Q' :=
  MetFree.imp hM fun a s o s' q => by
    obtain ⟨v, L, h1, h2, h3⟩ := q
    exact ⟨v, L, h1, k _ _ _ h2, h3⟩
def own_lo (cs : List Int32) : List Value := cs.map fun c => Value.int (StrChars.lo8 c)
def own_wd (cs : List Int32) : List Value := StrChars.Road.wideBytes cs
theorem own_lo_len (cs : List Int32) : (own_lo cs).length = cs.length := by simp [own_lo]
theorem own_wd_len (cs : List Int32) : (own_wd cs).length = 2 * cs.length := by
  induction cs with
  | nil => rfl
  | cons c cs ih => show (StrChars.Road.wideBytes cs).length + 1 + 1 = _; have : (StrChars.Road.wideBytes cs).length = 2 * cs.length := ih; simp [this]; omega
theorem own_wd_app (as bs : List Int32) : own_wd (as ++ bs) = own_wd as ++ own_wd bs := by
  induction as with
  | nil => rfl
  | cons c cs ih => show Value.int _ :: Value.int _ :: own_wd (cs ++ bs) = _; rw [ih]; rfl
theorem own_i8 (x : Int32) : nar .byte (x.toInt8.toInt32) = x.toInt8.toInt32 := by
  show (x.toInt8.toInt32).toInt8.toInt32 = _
  simp
theorem own_lo_snoc (cs : List Int32) (c : Int32) : own_lo cs ++ [Value.int (nar .byte (c.toInt8.toInt32))] = own_lo (cs ++ [c]) := by
  rw [own_i8]; simp [own_lo, StrChars.lo8]
theorem own_wd_snoc (cs : List Int32) (c : Int32) : (own_wd cs ++ [Value.int (nar .byte ((c >>> ((0 : Int32) &&& 31)).toInt8.toInt32))]) ++ [Value.int (nar .byte ((c >>> ((8 : Int32) &&& 31)).toInt8.toInt32))] = own_wd (cs ++ [c]) := by
  rw [own_wd_app, own_i8, own_i8, StrChars.shr0, List.append_assoc]; rfl
theorem own_addk (x k : Nat) : Int32.ofNat x + Int32.ofNat k = Int32.ofNat (x + k) := (Int32.ofNat_add x k).symm
theorem own_shl0 (c : Int32) : c <<< ((0 : Int32) &&& 31) = c := by
  apply Int32.toBitVec_inj.mp
  show c.toBitVec <<< (((0 : Int32) &&& 31).toBitVec.smod 32) = _
  rw [show (((0 : Int32) &&& 31).toBitVec.smod 32) = 0#32 from by decide]; simp
theorem own_shl1 (x : Nat) : Int32.ofNat x <<< ((1 : Int32) &&& 31) = Int32.ofNat (2 * x) := by
  apply Int32.toBitVec_inj.mp
  show (BitVec.ofNat 32 x) <<< (((1 : Int32) &&& 31).toBitVec.smod 32) = BitVec.ofNat 32 (2 * x)
  rw [show (((1 : Int32) &&& 31).toBitVec.smod 32) = 1#32 from by decide]
  apply BitVec.eq_of_toNat_eq
  simp [Nat.shiftLeft_eq]; omega
theorem own_all1 (n : Nat) {C P : Nat → Prop} [∀ q, Decidable (C q)] [∀ q, Decidable (P q)] (h : (List.range n).all (fun q => !decide (C q) || decide (P q)) = true) (q : Nat) (hq : q < n) (hC : C q) : P q := by
  have := List.all_eq_true.mp h q (List.mem_range.mpr hq)
  simpa [hC] using this
theorem own_all2 (n m : Nat) {C P : Nat → Nat → Prop} [∀ q r, Decidable (C q r)] [∀ q r, Decidable (P q r)] (h : (List.range n).all (fun q => (List.range m).all fun r => !decide (C q r) || decide (P q r)) = true) (q : Nat) (hq : q < n) (r : Nat) (hr : r < m) (hC : C q r) : P q r :=
  own_all1 m (C := C q) (P := P q) (List.all_eq_true.mp h q (List.mem_range.mpr hq)) r hr hC
theorem own_all3 (n m k : Nat) {C P : Nat → Nat → Nat → Prop} [∀ q r s, Decidable (C q r s)] [∀ q r s, Decidable (P q r s)] (h : (List.range n).all (fun q => (List.range m).all fun r => (List.range k).all fun s => !decide (C q r s) || decide (P q r s)) = true) (q : Nat) (hq : q < n) (r : Nat) (hr : r < m) (s : Nat) (hs : s < k) (hC : C q r s) : P q r s :=
  own_all2 m k (C := C q) (P := P q) (List.all_eq_true.mp h q (List.mem_range.mpr hq)) r hr s hs hC
theorem own_b31 {x : Nat} (h : x < 100) : 2 * x < 2 ^ 31 := by omega
theorem own_or {a b h0 H : Nat} {ws : List Addr} (q : a = b ∨ H ≤ a) (m : b ∈ ws) (k : h0 ≤ H) : a ∈ ws ∨ h0 ≤ a := by
  rcases q with rfl | q
  · exact Or.inl m
  · exact Or.inr (Nat.le_trans k q)
theorem own_kw {h0 h : Heap} {a b : Addr} (K : Keep h0 h [a]) : Keep h0 h [a, b] := (Keep.refl h0 [a, b]).trans K fun x hx => Or.inl (by rw [List.mem_singleton.mp hx]; exact List.mem_cons_self)
def Bld (Z : State) (h : Heap) (n0 b : Nat) (sb t : Addr) (cs : List Int32) : Prop := ∃ (k : ClassId) (n : Nat) (cd : Int32), Exa Z h sb sq4 ∧ Fld Z h sb sq2 "value" "[B" (.ref t) ∧ Fld Z h sb sq2 "coder" "B" (.int cd) ∧ Fld Z h sb sq2 "count" "I" (.int (Int32.ofNat cs.length)) ∧ Fld Z h sb sq2 "maybeLatin1" "Z" (.int 0) ∧ Exa Z h t "[B" ∧ t ≠ sb ∧ n0 ≤ sb ∧ n0 ≤ t ∧ cs.length ≤ n ∧ b ≤ n ∧ n < 13 ∧
  ((cd = 0 ∧ Arv Z h t k .byte (Int32.ofNat n) (own_lo cs) (.int (0 : Int32)) ∧ ∀ c ∈ cs, ¬ (255 : Int32) < c) ∨ (cd = 1 ∧ Arv Z h t k .byte (Int32.ofNat (2 * n)) (own_wd cs) (.int (0 : Int32)) ∧ ∃ c ∈ cs, (255 : Int32) < c))
def QA (Z : State) (sb t : Addr) (cs : List Int32) (h0 : Heap) (n0 : Nat) (v : Option Value) (h : Heap) (L : List Loc) : Prop := ∃ t' : Addr, (t' = t ∨ h0.size ≤ t') ∧ v = some (.ref sb) ∧ Fr n0 L ∧ Keep h0 h [sb, t] ∧ Bld Z h n0 1 sb t' cs
theorem own_nor {a t b H : Nat} (q : t = b ∨ H ≤ t) (h : a ≠ b) (k : a < H) : a ≠ t := by
  rcases q with rfl | q
  · exact h
  · omega
theorem own_lo_app (as bs : List Int32) : own_lo (as ++ bs) = own_lo as ++ own_lo bs := by simp [own_lo]
theorem Bld.weak {Z : State} {h : Heap} {n0 b b' : Nat} {sb t : Addr} {cs : List Int32} (B : Bld Z h n0 b sb t cs) (q : b' ≤ b) : Bld Z h n0 b' sb t cs := by
  obtain ⟨k, n, cd, a1, a2, a3, a4, a5, a6, a7, a8, a9, a10, a11, a12, a13⟩ := B
  exact ⟨k, n, cd, a1, a2, a3, a4, a5, a6, a7, a8, a9, a10, Nat.le_trans q a11, a12, a13⟩
def Str (Z : State) (h : Heap) (x t : Addr) (cs : List Int32) : Prop := ∃ (k : ClassId) (cd n : Int32) (vs : List Value), Exa Z h x sq3 ∧ Fld Z h x sq3 "value" "[B" (.ref t) ∧ Fld Z h x sq3 "coder" "B" (.int cd) ∧ Arv Z h t k .byte n vs (.int (0 : Int32)) ∧ StrChars.Road.CodA cs cd n vs
def QT (Z : State) (cs : List Int32) (h0 : Heap) (n0 : Nat) (v : Option Value) (h : Heap) (L : List Loc) : Prop := ∃ r t : Addr, v = some (.ref r) ∧ h0.size ≤ r ∧ h0.size ≤ t ∧ Fr n0 L ∧ Keep h0 h [] ∧ Str Z h r t cs
def QB (Z : State) (sb : Addr) (b : Nat) (h0 : Heap) (n0 : Nat) (v : Option Value) (h : Heap) (L : List Loc) : Prop := ∃ t : Addr, h0.size ≤ t ∧ v = none ∧ Fr n0 L ∧ Keep h0 h [sb] ∧ Bld Z h n0 b sb t []
theorem own_nc {c : Int32} (h0 : ¬ c < 0) (h1 : ¬ (65535 : Int32) < c) : nar .char c = c := Value.int.inj (StrChars.narrow_ch h0 h1)
theorem own_wd_get0 (cs : List Int32) (i : Nat) (h : i < cs.length) (h7 : 2 * i < 2 ^ 31) : (own_wd cs).getD ((Int32.ofNat (2 * i))).toNatClampNeg (.int 0) = (.int (StrChars.lo8 (cs.getD i 0))) := by
  rw [Int32.toNatClampNeg_ofNat_of_lt h7]; exact StrChars.Road.wide_lo _ cs i h
theorem own_wd_get1 (cs : List Int32) (i : Nat) (h : i < cs.length) (h7 : 2 * i + 1 < 2 ^ 31) : (own_wd cs).getD (((Int32.ofNat (2 * i)) + (1 : Int32))).toNatClampNeg (.int 0) = (.int (StrChars.hi8 (cs.getD i 0))) := by
  rw [show (Int32.ofNat (2 * i)) + (1 : Int32) = Int32.ofNat (2 * i + 1) from own_addk _ 1, Int32.toNatClampNeg_ofNat_of_lt h7]; exact StrChars.Road.wide_hi _ cs i h
def enc (c : Int32) : List Int32 := if c = 92 then [92, 92] else if c = 9 then [92, 116] else if c = 10 then [92, 110] else if c = 13 then [92, 114] else [c]
theorem own_mid (as bs : List Int32) (j : Nat) (h : j < bs.length) (ds : List Int32) : (as ++ bs ++ ds).getD (as.length + j) 0 = bs.getD j 0 := by
  rw [List.getD_eq_getElem?_getD, List.getD_eq_getElem?_getD, List.append_assoc, List.getElem?_append_right (Nat.le_add_right _ _), Nat.add_sub_cancel_left, List.getElem?_append_left h]
theorem own_take (cs : List Int32) (i : Nat) (h : i < cs.length) : cs.take (i + 1) = cs.take i ++ [cs.getD i 0] := by
  rw [List.take_add_one]; simp [List.getElem?_eq_getElem h, List.getD_eq_getElem?_getD]
theorem own_f1 : ∀ nb < 13, ∀ q < nb, (¬ ((Int32.ofNat q) <<< ((1 : Int32) &&& 31)) < 0 ∧ ((Int32.ofNat q) <<< ((1 : Int32) &&& 31)) < Int32.ofNat (2 * nb)) ∧ (¬ (((Int32.ofNat q) <<< ((1 : Int32) &&& 31)) + (1 : Int32)) < 0 ∧ (((Int32.ofNat q) <<< ((1 : Int32) &&& 31)) + (1 : Int32)) < Int32.ofNat (2 * nb)) ∧ (((Int32.ofNat q) <<< ((1 : Int32) &&& 31))).toNatClampNeg = 2 * q ∧ ((((Int32.ofNat q) <<< ((1 : Int32) &&& 31)) + (1 : Int32))).toNatClampNeg = 2 * q + 1 := by decide +kernel
theorem own_lo_get (cs : List Int32) (i : Nat) (h : i < cs.length) (h31 : i < 2 ^ 31) : (own_lo cs).getD (Int32.ofNat i).toNatClampNeg (.int 0) = .int (StrChars.lo8 (cs.getD i 0)) := by
  rw [Int32.toNatClampNeg_ofNat_of_lt h31]; exact StrChars.Road.low_at _ cs i h
def St (Z : State) (GC : Int32) (GF : Value) : Prop := (Sta Z Z.heap sq3 "COMPACT_STRINGS" "Z" (.int GC)) ∧ (Sta Z Z.heap sq6 "SIOOBE_FORMATTER" "Ljava/util/function/BiFunction;" GF) ∧ (GF.isRef = true) ∧ (¬ (GC = (0 : Int32))) ∧ (Sta Z Z.heap sq5 "$assertionsDisabled" "Z" (.int 1)) ∧ (Sta Z Z.heap sq5 "HI_BYTE_SHIFT" "I" (.int 0)) ∧ (Sta Z Z.heap sq5 "LO_BYTE_SHIFT" "I" (.int 8))
abbrev D46 (n : Nat) (i : Instr) (k : Nat) : Prop := decode jdk_52_method_4_code n = .ok (i, k)
theorem d46_0 : D46 0 (.getstatic 44) 3 := by decide +kernel
theorem d46_3 : D46 3 (.ifCond .ne 25) 3 := by decide +kernel
theorem d46_28 : D46 28 (.iload_n 1) 1 := by decide +kernel
theorem d46_29 : D46 29 (.iconst 1) 1 := by decide +kernel
theorem d46_30 : D46 30 (.ishl) 1 := by decide +kernel
theorem d46_31 : D46 31 (.istore_n 1) 1 := by decide +kernel
theorem d46_32 : D46 32 (.aload_n 0) 1 := by decide +kernel
theorem d46_33 : D46 33 (.iload_n 1) 1 := by decide +kernel
theorem d46_34 : D46 34 (.iinc 1 1) 3 := by decide +kernel
theorem d46_37 : D46 37 (.iload_n 2) 1 := by decide +kernel
theorem d46_38 : D46 38 (.getstatic 59) 3 := by decide +kernel
theorem d46_41 : D46 41 (.ishr) 1 := by decide +kernel
theorem d46_42 : D46 42 (.i2b) 1 := by decide +kernel
theorem d46_43 : D46 43 (.bastore) 1 := by decide +kernel
theorem d46_44 : D46 44 (.aload_n 0) 1 := by decide +kernel
theorem d46_45 : D46 45 (.iload_n 1) 1 := by decide +kernel
theorem d46_46 : D46 46 (.iload_n 2) 1 := by decide +kernel
theorem d46_47 : D46 47 (.getstatic 63) 3 := by decide +kernel
theorem d46_50 : D46 50 (.ishr) 1 := by decide +kernel
theorem d46_51 : D46 51 (.i2b) 1 := by decide +kernel
theorem d46_52 : D46 52 (.bastore) 1 := by decide +kernel
theorem d46_53 : D46 53 (.return_) 1 := by decide +kernel
theorem ef_0 (m : MethodId) (x0 : Addr) (x1 : Int32) (x2 : Int32) : entryFrame m #[(.ref x0), (.int x1), (.int x2)] 3 = mkF m 0 #[.val (.ref x0), .val (.int x1), .val (.int x2)] [] := by first | (simp [entryFrame, mkF, argsToLocals, Value.category]; done) | rfl
theorem pn_0 : plainName sq5 = true := by first | (simp [plainName, overriddenIn]; done) | decide +kernel
def Q46_1 (Z : State) (u1 : Addr) (u2 : Int32) (u3 : Int32) (u4 : ClassId) (u5 : Int32) (u6 : List Value) (h0 : Heap) (n0 : Nat) (v : Option Value) (h : Heap) (L : List Loc) : Prop := v = none ∧ Fr n0 L ∧ Keep h0 h [u1] ∧ Arv Z h u1 u4 .byte u5 ((u6 ++ [(Value.int (nar .byte ((u3 >>> ((0 : Int32) &&& 31)).toInt8.toInt32)))]) ++ [(Value.int (nar .byte ((u3 >>> ((8 : Int32) &&& 31)).toInt8.toInt32)))]) (.int (0 : Int32)) ∧ Exa Z h u1 "[B"
theorem rm46_1 (l : Launch) (Z : State) (a0 : Array Value) (hw : HW Z a0) (ws : List Jvm.Cond) (u1 : Addr) (u2 : Int32) (u3 : Int32) (u4 : ClassId) (u5 : Int32) (u6 : List Value) (h0 : Heap) (n0 : Nat) (Z0 : n0 ≤ h0.size) (Sg4 : Sta Z Z.heap sq5 "$assertionsDisabled" "Z" (.int 1)) (P2 : Old Z n0 h0) (Sg5 : Sta Z Z.heap sq5 "HI_BYTE_SHIFT" "I" (.int 0)) (P4 : Arv Z h0 u1 u4 .byte u5 u6 (.int (0 : Int32))) (P5 : Exa Z h0 u1 "[B") (P6 : ¬ (u2 <<< ((1 : Int32) &&& 31)) < 0 ∧ (u2 <<< ((1 : Int32) &&& 31)) < u5) (P7 : n0 ≤ u1) (P8 : ((u2 <<< ((1 : Int32) &&& 31))).toNatClampNeg = u6.length) (Sg6 : Sta Z Z.heap sq5 "LO_BYTE_SHIFT" "I" (.int 8)) (P10 : ¬ ((u2 <<< ((1 : Int32) &&& 31)) + (1 : Int32)) < 0 ∧ ((u2 <<< ((1 : Int32) &&& 31)) + (1 : Int32)) < u5) (P11 : (((u2 <<< ((1 : Int32) &&& 31)) + (1 : Int32))).toNatClampNeg = (u6 ++ [(Value.int (nar .byte ((u3 >>> ((0 : Int32) &&& 31)).toInt8.toInt32)))]).length) :
    MF l Z mq45 (Jvm.Cond.code mq45 jdk_52_method_4_code 3 none) ws rq0 #[(.ref u1), (.int u2), (.int u3)] h0 (Q46_1 Z u1 u2 u3 u4 u5 u6 h0 n0) := by
  refine own_enter (plainFor_of_name pn_0) fun p e s m below meth c s₁ X0 hx hby hml hown hnm hZ e0 hre hlk => ?_
  have N0 := Fr.nil n0
  have pre0 : ∀ t, SF p e below s₁ (mkF m 0 #[rv u1, iv u2, iv u3] []) t → SF p e below s₁ (entryFrame m #[(.ref u1), (.int u2), (.int u3)] 3) t := fun t k => castTop (ef_0 m u1 u2 u3) k
  obtain ⟨T1, X1, e1, st1⟩ := getS2 X0 hx hZ hown (host := "") (Or.inl (tw hw 234 rfl)) Via.refl e0 (Sg4.ext P2.2) (g := (mkF m 0 #[rv u1, iv u2, iv u3] [])) rfl (hb hby d46_0)
  obtain ⟨T2, X2, e2, st2⟩ := getS2 X1 hx hZ hown (host := "") (Or.inl (tw hw 235 rfl)) Via.refl e1 (Sg5.ext P2.2) (g := (mkF m 38 #[rv u1, iv ((u2 <<< ((1 : Int32) &&& 31)) + (1 : Int32)), iv u3] [(.int u3), (.int (u2 <<< ((1 : Int32) &&& 31))), (.ref u1)])) rfl (hb hby d46_38)
  obtain ⟨cl3, Ar3, q3, S3, N3z, H3, G3⟩ := id P4
  have hin3 : ¬ ((u2 <<< ((1 : Int32) &&& 31)) < 0 ∨ cl3.slots.size ≤ ((u2 <<< ((1 : Int32) &&& 31))).toNatClampNeg) := inb_of S3 P6
  obtain ⟨T4, h4, X4, e4, W4, st4⟩ := stB X2 hx hZ e2 Ar3 (j := (u2 <<< ((1 : Int32) &&& 31))) hin3 (g := (mkF m 43 #[rv u1, iv ((u2 <<< ((1 : Int32) &&& 31)) + (1 : Int32)), iv u3] [(.int ((u3 >>> ((0 : Int32) &&& 31)).toInt8.toInt32)), (.int (u2 <<< ((1 : Int32) &&& 31))), (.ref u1)])) rfl rfl (hb hby d46_43)
  have K4 : Keep h0 h4 [u1] := (Keep.refl h0 [u1]).wr W4 (Or.inl (List.mem_of_getElem? (i := 0) rfl))
  have N4 := Fr.snoc X4 N0 P7
  have V4 : Arv Z h4 u1 u4 .byte u5 (u6 ++ [(Value.int (nar .byte ((u3 >>> ((0 : Int32) &&& 31)).toInt8.toInt32)))]) (.int (0 : Int32)) := own_push P4 (fits_nar_byte _) W4 P8
  have O4 : Old Z n0 h4 := P2.wr W4 P7
  obtain ⟨T5, X5, e5, st5⟩ := getS2 X4 hx hZ hown (host := "") (Or.inl (tw hw 236 rfl)) Via.refl e4 (Sg6.ext O4.2) (g := (mkF m 47 #[rv u1, iv ((u2 <<< ((1 : Int32) &&& 31)) + (1 : Int32)), iv u3] [(.int u3), (.int ((u2 <<< ((1 : Int32) &&& 31)) + (1 : Int32))), (.ref u1)])) rfl (hb hby d46_47)
  obtain ⟨cl6, Ar6, q6, S6, N6z, H6, G6⟩ := id V4
  have hin6 : ¬ (((u2 <<< ((1 : Int32) &&& 31)) + (1 : Int32)) < 0 ∨ cl6.slots.size ≤ (((u2 <<< ((1 : Int32) &&& 31)) + (1 : Int32))).toNatClampNeg) := inb_of S6 P10
  obtain ⟨T7, h7, X7, e7, W7, st7⟩ := stB X5 hx hZ e5 Ar6 (j := ((u2 <<< ((1 : Int32) &&& 31)) + (1 : Int32))) hin6 (g := (mkF m 52 #[rv u1, iv ((u2 <<< ((1 : Int32) &&& 31)) + (1 : Int32)), iv u3] [(.int ((u3 >>> ((8 : Int32) &&& 31)).toInt8.toInt32)), (.int ((u2 <<< ((1 : Int32) &&& 31)) + (1 : Int32))), (.ref u1)])) rfl rfl (hb hby d46_52)
  have K7 : Keep h0 h7 [u1] := K4.wr W7 (Or.inl (List.mem_of_getElem? (i := 0) rfl))
  have N7 := Fr.snoc X7 N4 P7
  have V7 : Arv Z h7 u1 u4 .byte u5 ((u6 ++ [(Value.int (nar .byte ((u3 >>> ((0 : Int32) &&& 31)).toInt8.toInt32)))]) ++ [(Value.int (nar .byte ((u3 >>> ((8 : Int32) &&& 31)).toInt8.toInt32)))]) (.int (0 : Int32)) := own_push V4 (fits_nar_byte _) W7 P11
  have F1_8 : Exa Z h4 u1 "[B" := P5.wr W4
  have F2_9 : Exa Z h7 u1 "[B" := F1_8.wr W7
  obtain ⟨fs, hr, hrun, hended, hW, hsame⟩ := X7.leave (v := none) (fun _ => rfl)
  refine ⟨_, _, pre0 _ ?_, hrun, hended, _, _, rfl, ?_, ⟨_, rfl⟩, hW, hsame.mono (by decide) (by decide)⟩
  · show SF p e below s₁ (mkF m 0 #[rv u1, iv u2, iv u3] []) _
    refine st1 _ ?_
    refine XS.ifYes X1.here hx rfl (pc0 := 3) (pc' := 28) rfl (hb hby d46_3) rfl ((if0 _ _).trans (feq (by decide : ¬ ((1 : Int32) = (0 : Int32)))).2) (by decide) (by decide) ?_
    refine XS.iloadN X1.here hx rfl (hb hby d46_28) rfl ?_
    refine XS.iconst X1.here hx rfl (hb hby d46_29) ?_
    refine XS.ishl X1.here hx rfl (hb hby d46_30) rfl ?_
    refine XS.istoreN X1.here hx rfl (hb hby d46_31) rfl (l' := #[rv u1, iv (u2 <<< ((1 : Int32) &&& 31)), iv u3]) rfl ?_
    refine XS.aloadN X1.here hx rfl (hb hby d46_32) rfl rfl ?_
    refine XS.iloadN X1.here hx rfl (hb hby d46_33) rfl ?_
    refine XS.iinc X1.here hx rfl (hb hby d46_34) rfl (l' := #[rv u1, iv ((u2 <<< ((1 : Int32) &&& 31)) + (1 : Int32)), iv u3]) rfl ?_
    refine XS.iloadN X1.here hx rfl (hb hby d46_37) rfl ?_
    refine st2 _ ?_
    refine XS.ishr X2.here hx rfl (hb hby d46_41) rfl ?_
    refine XS.i2b X2.here hx rfl (hb hby d46_42) rfl ?_
    refine st4 _ ?_
    refine XS.aloadN X4.here hx rfl (hb hby d46_44) rfl rfl ?_
    refine XS.iloadN X4.here hx rfl (hb hby d46_45) rfl ?_
    refine XS.iloadN X4.here hx rfl (hb hby d46_46) rfl ?_
    refine st5 _ ?_
    refine XS.ishr X5.here hx rfl (hb hby d46_50) rfl ?_
    refine XS.i2b X5.here hx rfl (hb hby d46_51) rfl ?_
    refine st7 _ ?_
    exact X7.returnOut hx hre (hb hby d46_53) hr
  · show Q46_1 Z u1 u2 u3 u4 u5 u6 h0 n0 _ T7.heap _
    rw [e7]
    exact ⟨rfl, N7, K7, V7, F2_9⟩
abbrev D53 (n : Nat) (i : Instr) (k : Nat) : Prop := decode jdk_52_method_86_code n = .ok (i, k)
theorem d53_10 : D53 10 (.iload 5) 2 := by decide +kernel
theorem d53_12 : D53 12 (.iload 4) 2 := by decide +kernel
theorem d53_14 : D53 14 (.if_icmp .ge 27) 3 := by decide +kernel
theorem d53_17 : D53 17 (.aload_n 2) 1 := by decide +kernel
theorem d53_18 : D53 18 (.iload_n 3) 1 := by decide +kernel
theorem d53_19 : D53 19 (.iinc 3 1) 3 := by decide +kernel
theorem d53_22 : D53 22 (.aload_n 0) 1 := by decide +kernel
theorem d53_23 : D53 23 (.iload_n 1) 1 := by decide +kernel
theorem d53_24 : D53 24 (.iinc 1 1) 3 := by decide +kernel
theorem d53_27 : D53 27 (.baload) 1 := by decide +kernel
theorem d53_28 : D53 28 (.sipush 255) 3 := by decide +kernel
theorem d53_31 : D53 31 (.iand) 1 := by decide +kernel
theorem d53_32 : D53 32 (.invokestatic 111) 3 := by decide +kernel
theorem pd_0 : parseMethodDescriptor "([BII)V" = some ⟨[(.array .byte), .int, .int], none⟩ := by decide +kernel
theorem d53_35 : D53 35 (.iinc 5 1) 3 := by decide +kernel
theorem d53_38 : D53 38 (.goto (-28)) 3 := by decide +kernel
theorem ef_1 (m : MethodId) (x0 : Addr) (x1 : Int32) (x2 : Addr) (x3 : Int32) (x4 : Int32) : entryFrame m #[(.ref x0), (.int x1), (.ref x2), (.int x3), (.int x4)] 6 = mkF m 0 #[.val (.ref x0), .val (.int x1), .val (.ref x2), .val (.int x3), .val (.int x4), .unset] [] := by first | (simp [entryFrame, mkF, argsToLocals, Value.category]; done) | rfl
theorem infT {p : Program} {l : Launch} {e : Env} {s : State} {m : MethodId} {below : List Frame} {meth : Method} {c : Code} {T0 : State} {locs : List Loc} {Z : State} {a0 : Array Value} {h0 : Heap} {n0 : Nat} {Qa : Option Value → Heap → List Loc → Prop} {sra : Addr} {dsa : Addr} {j0a : Int32} {lna : Int32} {iia : Int32} {ksa : ClassId} {zsa : Int32} {lsa : List Value} {el1 : Int32} {kda : ClassId} {zda : Int32} {lda : List Value} {jja : Int32} (X0 : Stand p l e rq14 s m #[(.ref sra), (.int 0), (.ref dsa), (.int j0a), (.int lna)] below meth c T0 locs 0 0) (hx : p.tables.exec = Jvm.exec) (hZ : Z.Warmed39 s.vm) (hw : HW Z a0) (hby : c.code = jdk_52_method_86_code) (hml : c.maxLocals = 6) (hown : s.vm.findClass sq5 = some m.cls) (hnm : meth.name = "inflate") (hre : meth.sig.returnType = none) (hlk : meth.locks = false) (e0 : T0.heap = h0) (N0 : Fr n0 locs) (Z0 : n0 ≤ h0.size) (P1 : iia < lna) (P2 : Arv Z h0 sra ksa .byte zsa lsa (.int (0 : Int32))) (P3 : ¬ iia < 0 ∧ iia < zsa) (P4 : lsa.getD (iia).toNatClampNeg (.int 0) = (.int el1)) (P5 : Arv Z h0 dsa kda .byte zda lda (.int (0 : Int32))) (P6 : Exa Z h0 dsa "[B") (Sg4 : Sta Z Z.heap sq5 "$assertionsDisabled" "Z" (.int 1)) (P8 : Old Z n0 h0) (Sg5 : Sta Z Z.heap sq5 "HI_BYTE_SHIFT" "I" (.int 0)) (P10 : ¬ (jja <<< ((1 : Int32) &&& 31)) < 0 ∧ (jja <<< ((1 : Int32) &&& 31)) < zda) (P11 : n0 ≤ dsa) (P12 : ((jja <<< ((1 : Int32) &&& 31))).toNatClampNeg = lda.length) (Sg6 : Sta Z Z.heap sq5 "LO_BYTE_SHIFT" "I" (.int 8)) (P14 : ¬ ((jja <<< ((1 : Int32) &&& 31)) + (1 : Int32)) < 0 ∧ ((jja <<< ((1 : Int32) &&& 31)) + (1 : Int32)) < zda) (P15 : (((jja <<< ((1 : Int32) &&& 31)) + (1 : Int32))).toNatClampNeg = (lda ++ [(Value.int (nar .byte (((el1 &&& (255 : Int32)) >>> ((0 : Int32) &&& 31)).toInt8.toInt32)))]).length) (P16 : sra ≠ dsa) (kk : ∀ (T1 : State) (L1 : List Loc) (h1 : Heap), Stand p l e rq14 s m #[(.ref sra), (.int 0), (.ref dsa), (.int j0a), (.int lna)] below meth c T1 L1 0 0 → T1.heap = h1 → Fr n0 L1 → n0 ≤ h1.size → Keep h0 h1 [dsa] → Arv Z h1 sra ksa .byte zsa lsa (.int (0 : Int32)) → Arv Z h1 dsa kda .byte zda ((lda ++ [(Value.int (nar .byte (((el1 &&& (255 : Int32)) >>> ((0 : Int32) &&& 31)).toInt8.toInt32)))]) ++ [(Value.int (nar .byte (((el1 &&& (255 : Int32)) >>> ((8 : Int32) &&& 31)).toInt8.toInt32)))]) (.int (0 : Int32)) → Exa Z h1 dsa "[B" → Fin p e below s 0 0 Qa (T1.setTop (mkF m 10 #[rv sra, iv (iia + (1 : Int32)), rv dsa, iv (jja + (1 : Int32)), iv lna, iv (iia + (1 : Int32))] []))) :
    Fin p e below s 0 0 Qa (T0.setTop (mkF m 10 #[rv sra, iv iia, rv dsa, iv jja, iv lna, iv iia] [])) := by
  obtain ⟨cl1, Ar1, q1, S1, N1z, H1, G1⟩ := id P2
  have hin1 : ¬ (iia < 0 ∨ cl1.slots.size ≤ (iia).toNatClampNeg) := inb_of S1 P3
  have hat1 : cl1.slots[(iia).toNatClampNeg]? = some (.int el1) := Has.at H1 hin1 P4
  obtain ⟨_, _, ⟨T2, L2, k2x, n2⟩, -, X2, ⟨Lc2, hQ2, l2, y2, z2⟩, st2⟩ := Jvm.LawKit.callS X0 hx (y := mq45) hown (mvT hZ (tw hw 231 rfl)) (mvT hZ (tw hw 232 rfl)) (mvT hZ (tw hw 21 rfl)) (mvT hZ (tw hw 233 rfl)) (by decide) (backOf (W := 0) (rm46_1 l Z a0 hw [] dsa jja (el1 &&& (255 : Int32)) kda zda lda h0 n0 Z0 Sg4 P8 Sg5 P5 P6 P10 P11 P12 Sg6 P14 P15) hZ (tw hw 233 rfl) (tw hw 21 rfl) (by decide) (by decide)) (g := (mkF m 32 #[rv sra, iv (iia + (1 : Int32)), rv dsa, iv (jja + (1 : Int32)), iv lna, iv iia] [(.int (el1 &&& (255 : Int32))), (.int jja), (.ref dsa)])) rfl (by rw [hml]; rfl) (argsL := [(.ref dsa), (.int jja), (.int (el1 &&& (255 : Int32)))]) (rest := []) (lenOf pd_0 rfl) rfl (Nat.le_of_eq rfl) (hb hby d53_32) (fun _ _ => ⟨rfl, e0, (by decide : 0 + 0 ≤ _), (by decide : 0 + 0 ≤ _)⟩)
  dsimp only [Pt.U, Pt.locs, Pt.cells, Pt.slots] at X2 l2 y2 z2 st2 hQ2
  subst l2 y2 z2
  obtain ⟨rfl, N2q, K2c, Fq2_0, Fq2_1⟩ := hQ2
  have K2 : Keep h0 T2.heap [dsa] := (Keep.refl h0 [dsa]).trans K2c (allS (Or.inl (List.mem_of_getElem? (i := 0) rfl)) all0)
  have V2 : Arv Z T2.heap dsa kda .byte zda ((lda ++ [(Value.int (nar .byte (((el1 &&& (255 : Int32)) >>> ((0 : Int32) &&& 31)).toInt8.toInt32)))]) ++ [(Value.int (nar .byte (((el1 &&& (255 : Int32)) >>> ((8 : Int32) &&& 31)).toInt8.toInt32)))]) (.int (0 : Int32)) := Fq2_0
  have N2 := Fr.app N0 N2q
  have F1_3 : Arv Z T2.heap sra ksa .byte zsa lsa (.int (0 : Int32)) := P2.keep K2c (ninS P16 nin0)
  have Z2 : n0 ≤ T2.heap.size := Nat.le_trans Z0 K2c.1
  refine Fin.pre (fun t k => ?_) (kk _ _ _ X2 rfl N2 Z2 K2 F1_3 V2 Fq2_1)
  show SF p e below T0 (mkF m 10 #[rv sra, iv iia, rv dsa, iv jja, iv lna, iv iia] []) _
  refine XS.iload X0.here hx rfl (hb hby d53_10) rfl ?_
  refine XS.iload X0.here hx rfl (hb hby d53_12) rfl ?_
  refine XS.icmpNo X0.here hx rfl (hb hby d53_14) rfl (tlt P1).2.1 ?_
  refine XS.aloadN X0.here hx rfl (hb hby d53_17) rfl rfl ?_
  refine XS.iloadN X0.here hx rfl (hb hby d53_18) rfl ?_
  refine XS.iinc X0.here hx rfl (hb hby d53_19) rfl (l' := #[rv sra, iv iia, rv dsa, iv (jja + (1 : Int32)), iv lna, iv iia]) rfl ?_
  refine XS.aloadN X0.here hx rfl (hb hby d53_22) rfl rfl ?_
  refine XS.iloadN X0.here hx rfl (hb hby d53_23) rfl ?_
  refine XS.iinc X0.here hx rfl (hb hby d53_24) rfl (l' := #[rv sra, iv (iia + (1 : Int32)), rv dsa, iv (jja + (1 : Int32)), iv lna, iv iia]) rfl ?_
  refine X0.baloadBytes hx (j := iia) (v := (.int el1)) (by rw [e0]; exact Ar1.1) (State.isArrayOf_alike hZ.alike Ar1.2.1) Ar1.2.2 hin1 hat1 (g := (mkF m 27 #[rv sra, iv (iia + (1 : Int32)), rv dsa, iv (jja + (1 : Int32)), iv lna, iv iia] [(.int iia), (.ref sra), (.int jja), (.ref dsa)])) rfl rfl (hb hby d53_27) _ ?_
  refine XS.sipush X0.here hx rfl (hb hby d53_28) ?_
  refine XS.iand X0.here hx rfl (hb hby d53_31) rfl ?_
  refine st2 _ ?_
  refine XS.iinc X2.here hx rfl (hb hby d53_35) rfl (l' := #[rv sra, iv (iia + (1 : Int32)), rv dsa, iv (jja + (1 : Int32)), iv lna, iv (iia + (1 : Int32))]) rfl ?_
  refine XS.goto X2.here hx rfl (pc0 := 38) (pc' := 10) rfl (hb hby d53_38) (by decide) (by decide) ?_
  exact k
theorem d53_41 : D53 41 (.return_) 1 := by decide +kernel
theorem infX {p : Program} {l : Launch} {e : Env} {s : State} {m : MethodId} {below : List Frame} {meth : Method} {c : Code} {T0 : State} {locs : List Loc} {Z : State} {a0 : Array Value} {h0 : Heap} {n0 : Nat} {Qa : Option Value → Heap → List Loc → Prop} {sra : Addr} {dsa : Addr} {j0a : Int32} {lna : Int32} {iia : Int32} {kda : ClassId} {zda : Int32} {lda : List Value} {jja : Int32} (X0 : Stand p l e rq14 s m #[(.ref sra), (.int 0), (.ref dsa), (.int j0a), (.int lna)] below meth c T0 locs 0 0) (hx : p.tables.exec = Jvm.exec) (hZ : Z.Warmed39 s.vm) (hw : HW Z a0) (hby : c.code = jdk_52_method_86_code) (hml : c.maxLocals = 6) (hown : s.vm.findClass sq5 = some m.cls) (hnm : meth.name = "inflate") (hre : meth.sig.returnType = none) (hlk : meth.locks = false) (e0 : T0.heap = h0) (N0 : Fr n0 locs) (Z0 : n0 ≤ h0.size) (P1 : ¬ (iia < lna)) (P2 : Arv Z h0 dsa kda .byte zda lda (.int (0 : Int32))) (P3 : Exa Z h0 dsa "[B") (kq : ∀ (h1 : Heap) (L1 : List Loc), Fr n0 L1 → Keep h0 h1 [] → Arv Z h1 dsa kda .byte zda lda (.int (0 : Int32)) → Exa Z h1 dsa "[B" → Qa none h1 L1) :
    Fin p e below s 0 0 Qa (T0.setTop (mkF m 10 #[rv sra, iv iia, rv dsa, iv jja, iv lna, iv iia] [])) := by
  obtain ⟨fs, hr, hrun, hended, hW, hsame⟩ := X0.leave (v := none) (fun _ => rfl)
  refine ⟨_, _, ?_, hrun, hended, _, _, rfl, ?_, ⟨_, rfl⟩, hW, hsame.mono (by decide) (by decide)⟩
  · show SF p e below T0 (mkF m 10 #[rv sra, iv iia, rv dsa, iv jja, iv lna, iv iia] []) _
    refine XS.iload X0.here hx rfl (hb hby d53_10) rfl ?_
    refine XS.iload X0.here hx rfl (hb hby d53_12) rfl ?_
    refine XS.icmpYes X0.here hx rfl (pc0 := 14) (pc' := 41) rfl (hb hby d53_14) rfl (flt P1).2.1 (by decide) (by decide) ?_
    exact X0.returnOut hx hre (hb hby d53_41) hr
  · show Qa _ T0.heap _
    rw [e0]
    exact kq _ _ N0 (Keep.refl h0 []) P2 P3
def QI (Z : State) (dsa : Addr) (kda : ClassId) (nb : Nat) (vs : List Value) (cs : List Int32) (h0 : Heap) (n0 : Nat) (v : Option Value) (h : Heap) (L : List Loc) : Prop := v = none ∧ Fr n0 L ∧ Keep h0 h [dsa] ∧ Arv Z h dsa kda .byte (Int32.ofNat (2 * nb)) (vs ++ own_wd cs) (.int (0 : Int32)) ∧ Exa Z h dsa "[B"
theorem infL {p : Program} {l : Launch} {e : Env} {s : State} {m : MethodId} {below : List Frame} {meth : Method} {c : Code} {Z : State} {a0 : Array Value} {n0 : Nat} {GC : Int32} {GF : Value} (hx : p.tables.exec = Jvm.exec) (hZ : Z.Warmed39 s.vm) (hw : HW Z a0) (hby : c.code = jdk_52_method_86_code) (hml : c.maxLocals = 6) (hown : s.vm.findClass sq5 = some m.cls) (hnm : meth.name = "inflate") (hre : meth.sig.returnType = none) (hlk : meth.locks = false) (S : St Z GC GF)
    {sra dsa : Addr} {ksa kda : ClassId} {zsa : Int32} {nb j0 : Nat} {cs : List Int32} {vs : List Value} {hh : Heap} (hs : cs.length ≤ zsa.toNatClampNeg) (hc : ∀ c ∈ cs, ¬ c < 0 ∧ ¬ (255 : Int32) < c) (hv : vs.length = 2 * j0) (hj : j0 + cs.length ≤ nb) (hnb : nb < 13) (gd : n0 ≤ dsa) (ne : sra ≠ dsa) :
    ∀ (r i : Nat) (T0 : State) (locs : List Loc) (h0 : Heap), i + r = cs.length → Stand p l e rq14 s m #[(.ref sra), (.int 0), (.ref dsa), (.int (Int32.ofNat j0)), (.int (Int32.ofNat cs.length))] below meth c T0 locs 0 0 → T0.heap = h0 → Fr n0 locs → n0 ≤ h0.size → Old Z n0 h0 → Keep hh h0 [dsa] → Arv Z h0 sra ksa .byte zsa (own_lo cs) (.int (0 : Int32)) → Arv Z h0 dsa kda .byte (Int32.ofNat (2 * nb)) (vs ++ own_wd (cs.take i)) (.int (0 : Int32)) → Exa Z h0 dsa "[B" →
      Fin p e below s 0 0 (QI Z dsa kda nb vs cs hh n0) (T0.setTop (mkF m 10 #[rv sra, iv (Int32.ofNat i), rv dsa, iv (Int32.ofNat (j0 + i)), iv (Int32.ofNat cs.length), iv (Int32.ofNat i)] [])) := by
  intro r
  induction r with
  | zero =>
    intro i T0 locs h0 hi X0 e0 N0 Z0 O KK As Ad Ed
    have ei : i = cs.length := by omega
    subst ei
    rw [List.take_length] at Ad
    exact infX X0 hx hZ hw hby hml hown hnm hre hlk e0 N0 Z0 Int32.lt_irrefl Ad Ed (fun h1 L1 N K A E => ⟨rfl, N, KK.trans K (fun x hx => by cases hx), A, E⟩)
  | succ r ih =>
    intro i T0 locs h0 hi X0 e0 N0 Z0 O KK As Ad Ed
    have f1 := own_f1 nb hnb (j0 + i) (by omega)
    have hz := own_padz As
    have hin : ¬ Int32.ofNat i < 0 ∧ Int32.ofNat i < zsa := by
      have q := own_toN hz
      refine ⟨Jvm.Free.XT.nlt32 (b := 0) (by omega) (by omega), ?_⟩
      rw [← q.1]; exact Jvm.Free.XT.lt32 q.2 (by omega)
    have hlen : (vs ++ own_wd (cs.take i)).length = 2 * (j0 + i) := by rw [List.length_append, hv, own_wd_len, List.length_take]; omega
    refine infT (el1 := StrChars.lo8 (cs.getD i 0)) X0 hx hZ hw hby hml hown hnm hre hlk e0 N0 Z0 (Jvm.Free.XT.lt32 (by omega) (by omega)) As hin (own_lo_get cs i (by omega) (by omega)) Ad Ed S.2.2.2.2.1 O S.2.2.2.2.2.1 f1.1 gd (f1.2.2.1.trans hlen.symm) S.2.2.2.2.2.2 f1.2.1 (f1.2.2.2.trans (by rw [List.length_append, hlen]; rfl)) ne (fun T1 L1 h1 X1 e1 N1 z1 K1 As1 Ad1 Ed1 => ?_)
    have hci : ¬ cs.getD i 0 < 0 ∧ ¬ (255 : Int32) < cs.getD i 0 := hc _ (by rw [List.getD_eq_getElem?_getD, List.getElem?_eq_getElem (show i < cs.length by omega)]; exact List.getElem_mem _)
    rw [StrChars.lo8_mask hci.1 hci.2, List.append_assoc vs, List.append_assoc vs, own_wd_snoc, ← own_take cs i (by omega)] at Ad1
    rw [Jvm.Free.XT.succ32, Jvm.Free.XT.succ32, Nat.add_assoc]
    exact ih (i + 1) T1 L1 h1 (by omega) X1 e1 N1 z1 (O.keep K1 (allS gd all0)) (KK.trans K1 (fun x hx => Or.inl hx)) As1 Ad1 Ed1
theorem d53_0 : D53 0 (.iload_n 3) 1 := by decide +kernel
theorem d53_1 : D53 1 (.iload 4) 2 := by decide +kernel
theorem d53_3 : D53 3 (.aload_n 2) 1 := by decide +kernel
theorem d53_4 : D53 4 (.invokestatic 173) 3 := by decide +kernel
abbrev D54 (n : Nat) (i : Instr) (k : Nat) : Prop := decode jdk_52_method_94_code n = .ok (i, k)
theorem d54_0 : D54 0 (.iload_n 0) 1 := by decide +kernel
theorem d54_1 : D54 1 (.iload_n 1) 1 := by decide +kernel
theorem d54_2 : D54 2 (.aload_n 2) 1 := by decide +kernel
theorem d54_3 : D54 3 (.invokestatic 48) 3 := by decide +kernel
abbrev D50 (n : Nat) (i : Instr) (k : Nat) : Prop := decode jdk_52_method_6_code n = .ok (i, k)
theorem d50_0 : D50 0 (.aload_n 0) 1 := by decide +kernel
theorem d50_1 : D50 1 (.arraylength) 1 := by decide +kernel
theorem d50_2 : D50 2 (.iconst 1) 1 := by decide +kernel
theorem d50_3 : D50 3 (.ishr) 1 := by decide +kernel
theorem d50_4 : D50 4 (.ireturn) 1 := by decide +kernel
theorem ef_2 (m : MethodId) (x0 : Addr) : entryFrame m #[(.ref x0)] 1 = mkF m 0 #[.val (.ref x0)] [] := by first | (simp [entryFrame, mkF, argsToLocals, Value.category]; done) | rfl
def Q50_2 (Z : State) (u1 : Addr) (u2 : ClassId) (u3 : Nat) (u4 : List Value) (h0 : Heap) (n0 : Nat) (v : Option Value) (h : Heap) (L : List Loc) : Prop := v = some (.int (Int32.ofNat u3)) ∧ Fr n0 L ∧ h = h0
theorem rm50_2 (l : Launch) (Z : State) (a0 : Array Value) (hw : HW Z a0) (ws : List Jvm.Cond) (u1 : Addr) (u2 : ClassId) (u3 : Nat) (u4 : List Value) (h0 : Heap) (n0 : Nat) (Z0 : n0 ≤ h0.size) (P1 : Arv Z h0 u1 u2 .byte (Int32.ofNat (2 * u3)) u4 (.int (0 : Int32))) (P2 : u3 < 100) :
    MF l Z mq42 (Jvm.Cond.code mq42 jdk_52_method_6_code 1 (some .int)) ws rq0 #[(.ref u1)] h0 (Q50_2 Z u1 u2 u3 u4 h0 n0) := by
  refine own_enter (plainFor_of_name pn_0) fun p e s m below meth c s₁ X0 hx hby hml hown hnm hZ e0 hre hlk => ?_
  have N0 := Fr.nil n0
  have pre0 : ∀ t, SF p e below s₁ (mkF m 0 #[rv u1] []) t → SF p e below s₁ (entryFrame m #[(.ref u1)] 1) t := fun t k => castTop (ef_2 m u1) k
  obtain ⟨cl1, Ar1, q1, S1, N1z, H1, G1⟩ := id P1
  obtain ⟨fs, hr, hrun, hended, hW, hsame⟩ := X0.leave (v := some (.int (Int32.ofNat u3))) (fun h => by rw [hre] at h; cases h)
  refine ⟨_, _, pre0 _ ?_, hrun, hended, _, _, rfl, ?_, ⟨_, rfl⟩, hW, hsame.mono (by decide) (by decide)⟩
  · show SF p e below s₁ (mkF m 0 #[rv u1] []) _
    refine XS.aloadN X0.here hx rfl (hb hby d50_0) rfl rfl ?_
    refine X0.arraylength hx (by rw [e0]; exact Ar1.1) (State.isArrayOf_alike hZ.alike Ar1.2.1) (g := (mkF m 1 #[rv u1] [(.ref u1)])) rfl rfl (hb hby d50_1) _ ?_
    rw [len_of S1 N1z]
    refine XS.iconst X0.here hx rfl (hb hby d50_2) ?_
    refine XS.ishr X0.here hx rfl (hb hby d50_3) rfl ?_
    show SF p e below s₁ (mkF m 4 #[rv u1] [(.int ((Int32.ofNat (2 * u3)) >>> ((1 : Int32) &&& 31)))]) _
    rw [(show ((Int32.ofNat (2 * u3)) >>> ((1 : Int32) &&& 31)) = (Int32.ofNat u3) from StrChars.shr1 (own_b31 P2))]
    exact retI X0 hx hre (hb hby d50_4) hr
  · show Q50_2 Z u1 u2 u3 u4 h0 n0 _ s₁.heap _
    rw [e0]
    exact ⟨rfl, N0, rfl⟩
theorem pd_1 : parseMethodDescriptor "([B)I" = some ⟨[(.array .byte)], some .int⟩ := by decide +kernel
theorem d54_6 : D54 6 (.invokestatic 419) 3 := by decide +kernel
abbrev D55 (n : Nat) (i : Instr) (k : Nat) : Prop := decode jdk_42_method_157_code n = .ok (i, k)
theorem d55_0 : D55 0 (.iload_n 0) 1 := by decide +kernel
theorem d55_1 : D55 1 (.iload_n 1) 1 := by decide +kernel
theorem d55_2 : D55 2 (.iload_n 2) 1 := by decide +kernel
theorem d55_3 : D55 3 (.getstatic 1053) 3 := by decide +kernel
theorem d55_6 : D55 6 (.invokestatic 1065) 3 := by decide +kernel
abbrev D56 (n : Nat) (i : Instr) (k : Nat) : Prop := decode jdk_41_method_13_code n = .ok (i, k)
theorem d56_0 : D56 0 (.iload_n 2) 1 := by decide +kernel
theorem d56_1 : D56 1 (.iload_n 0) 1 := by decide +kernel
theorem d56_2 : D56 2 (.ior) 1 := by decide +kernel
theorem d56_3 : D56 3 (.iload_n 1) 1 := by decide +kernel
theorem d56_4 : D56 4 (.ior) 1 := by decide +kernel
theorem d56_5 : D56 5 (.ifCond .lt 10) 3 := by decide +kernel
theorem d56_8 : D56 8 (.iload_n 1) 1 := by decide +kernel
theorem d56_9 : D56 9 (.iload_n 2) 1 := by decide +kernel
theorem d56_10 : D56 10 (.iload_n 0) 1 := by decide +kernel
theorem d56_11 : D56 11 (.isub) 1 := by decide +kernel
theorem d56_12 : D56 12 (.if_icmp .le 11) 3 := by decide +kernel
theorem d56_23 : D56 23 (.iload_n 0) 1 := by decide +kernel
theorem d56_24 : D56 24 (.ireturn) 1 := by decide +kernel
theorem ef_3 (m : MethodId) (x0 : Int32) (x1 : Int32) (x2 : Int32) (x3 : Value) (hx3 : x3.isRef = true) : entryFrame m #[(.int x0), (.int x1), (.int x2), x3] 4 = mkF m 0 #[.val (.int x0), .val (.int x1), .val (.int x2), .val x3] [] := by rcases ref_cases hx3 with h | ⟨_, h⟩ <;> subst h <;> first | (simp [entryFrame, mkF, argsToLocals, Value.category]; done) | rfl
theorem pn_1 : plainName sq6 = true := by first | (simp [plainName, overriddenIn]; done) | decide +kernel
def Q56_3 (Z : State) (u1 : Nat) (u2 : List Int32) (u3 : Nat) (GF : Value) (h0 : Heap) (n0 : Nat) (v : Option Value) (h : Heap) (L : List Loc) : Prop := v = some (.int (Int32.ofNat u1)) ∧ Fr n0 L ∧ h = h0
theorem rm56_3 (l : Launch) (Z : State) (a0 : Array Value) (hw : HW Z a0) (ws : List Jvm.Cond) (u1 : Nat) (u2 : List Int32) (u3 : Nat) (GF : Value) (h0 : Heap) (n0 : Nat) (Z0 : n0 ≤ h0.size) (P1 : ¬ ((((Int32.ofNat u3) ||| (Int32.ofNat u1)) ||| (Int32.ofNat u2.length)) < (0 : Int32))) (P2 : ¬ (((Int32.ofNat u3) - (Int32.ofNat u1)) < (Int32.ofNat u2.length))) (rGF : GF.isRef = true) :
    MF l Z mq53 (Jvm.Cond.code mq53 jdk_41_method_13_code 4 (some .int)) ws rq0 #[(.int (Int32.ofNat u1)), (.int (Int32.ofNat u2.length)), (.int (Int32.ofNat u3)), GF] h0 (Q56_3 Z u1 u2 u3 GF h0 n0) := by
  refine own_enter (plainFor_of_name pn_1) fun p e s m below meth c s₁ X0 hx hby hml hown hnm hZ e0 hre hlk => ?_
  have N0 := Fr.nil n0
  have pre0 : ∀ t, SF p e below s₁ (mkF m 0 #[iv (Int32.ofNat u1), iv (Int32.ofNat u2.length), iv (Int32.ofNat u3), .val GF] []) t → SF p e below s₁ (entryFrame m #[(.int (Int32.ofNat u1)), (.int (Int32.ofNat u2.length)), (.int (Int32.ofNat u3)), GF] 4) t := fun t k => castTop (ef_3 m (Int32.ofNat u1) (Int32.ofNat u2.length) (Int32.ofNat u3) GF rGF) k
  obtain ⟨fs, hr, hrun, hended, hW, hsame⟩ := X0.leave (v := some (.int (Int32.ofNat u1))) (fun h => by rw [hre] at h; cases h)
  refine ⟨_, _, pre0 _ ?_, hrun, hended, _, _, rfl, ?_, ⟨_, rfl⟩, hW, hsame.mono (by decide) (by decide)⟩
  · show SF p e below s₁ (mkF m 0 #[iv (Int32.ofNat u1), iv (Int32.ofNat u2.length), iv (Int32.ofNat u3), .val GF] []) _
    refine XS.iloadN X0.here hx rfl (hb hby d56_0) rfl ?_
    refine XS.iloadN X0.here hx rfl (hb hby d56_1) rfl ?_
    refine XS.ior X0.here hx rfl (hb hby d56_2) rfl ?_
    refine XS.iloadN X0.here hx rfl (hb hby d56_3) rfl ?_
    refine XS.ior X0.here hx rfl (hb hby d56_4) rfl ?_
    refine XS.ifNo X0.here hx rfl (hb hby d56_5) rfl ((if0 _ _).trans (flt P1).1) ?_
    refine XS.iloadN X0.here hx rfl (hb hby d56_8) rfl ?_
    refine XS.iloadN X0.here hx rfl (hb hby d56_9) rfl ?_
    refine XS.iloadN X0.here hx rfl (hb hby d56_10) rfl ?_
    refine XS.isub X0.here hx rfl (hb hby d56_11) rfl ?_
    refine XS.icmpYes X0.here hx rfl (pc0 := 12) (pc' := 23) rfl (hb hby d56_12) rfl (flt P2).2.2.2 (by decide) (by decide) ?_
    refine XS.iloadN X0.here hx rfl (hb hby d56_23) rfl ?_
    exact retI X0 hx hre (hb hby d56_24) hr
  · show Q56_3 Z u1 u2 u3 GF h0 n0 _ s₁.heap _
    rw [e0]
    exact ⟨rfl, N0, rfl⟩
theorem pd_2 : parseMethodDescriptor "(IIILjava/util/function/BiFunction;)I" = some ⟨[.int, .int, .int, (.object "java/util/function/BiFunction")], some .int⟩ := by decide +kernel
theorem d55_9 : D55 9 (.ireturn) 1 := by decide +kernel
theorem ef_4 (m : MethodId) (x0 : Int32) (x1 : Int32) (x2 : Int32) : entryFrame m #[(.int x0), (.int x1), (.int x2)] 3 = mkF m 0 #[.val (.int x0), .val (.int x1), .val (.int x2)] [] := by first | (simp [entryFrame, mkF, argsToLocals, Value.category]; done) | rfl
theorem pn_2 : plainName sq3 = true := by first | (simp [plainName, overriddenIn]; done) | decide +kernel
def Q55_4 (Z : State) (u1 : Nat) (u2 : List Int32) (u3 : Nat) (GF : Value) (h0 : Heap) (n0 : Nat) (v : Option Value) (h : Heap) (L : List Loc) : Prop := v = some (.int (Int32.ofNat u1)) ∧ Fr n0 L ∧ h = h0
theorem rm55_4 (l : Launch) (Z : State) (a0 : Array Value) (hw : HW Z a0) (ws : List Jvm.Cond) (u1 : Nat) (u2 : List Int32) (u3 : Nat) (GF : Value) (h0 : Heap) (n0 : Nat) (Z0 : n0 ≤ h0.size) (Sg1 : Sta Z Z.heap sq6 "SIOOBE_FORMATTER" "Ljava/util/function/BiFunction;" GF) (P2 : Old Z n0 h0) (P3 : ¬ ((((Int32.ofNat u3) ||| (Int32.ofNat u1)) ||| (Int32.ofNat u2.length)) < (0 : Int32))) (P4 : ¬ (((Int32.ofNat u3) - (Int32.ofNat u1)) < (Int32.ofNat u2.length))) (rGF : GF.isRef = true) :
    MF l Z mq21 (Jvm.Cond.code mq21 jdk_42_method_157_code 3 (some .int)) ws ({ frames := 1, cells := 0, slots := 0, locals := 15 } : Room) #[(.int (Int32.ofNat u1)), (.int (Int32.ofNat u2.length)), (.int (Int32.ofNat u3))] h0 (Q55_4 Z u1 u2 u3 GF h0 n0) := by
  refine own_enter (plainFor_of_name pn_2) fun p e s m below meth c s₁ X0 hx hby hml hown hnm hZ e0 hre hlk => ?_
  have N0 := Fr.nil n0
  have pre0 : ∀ t, SF p e below s₁ (mkF m 0 #[iv (Int32.ofNat u1), iv (Int32.ofNat u2.length), iv (Int32.ofNat u3)] []) t → SF p e below s₁ (entryFrame m #[(.int (Int32.ofNat u1)), (.int (Int32.ofNat u2.length)), (.int (Int32.ofNat u3))] 3) t := fun t k => castTop (ef_4 m (Int32.ofNat u1) (Int32.ofNat u2.length) (Int32.ofNat u3)) k
  obtain ⟨T1, X1, e1, st1⟩ := getS2 X0 hx hZ hown (host := "") (Or.inl (tw hw 83 rfl)) Via.refl e0 (Sg1.ext P2.2) (g := (mkF m 3 #[iv (Int32.ofNat u1), iv (Int32.ofNat u2.length), iv (Int32.ofNat u3)] [(.int (Int32.ofNat u3)), (.int (Int32.ofNat u2.length)), (.int (Int32.ofNat u1))])) rfl (hb hby d55_3)
  obtain ⟨_, _, ⟨T2, L2, k2x, n2⟩, -, X2, ⟨Lc2, hQ2, l2, y2, z2⟩, st2⟩ := Jvm.LawKit.callS X1 hx (y := mq53) hown (mvT hZ (tw hw 268 rfl)) (mvT hZ (tw hw 269 rfl)) (mvT hZ (tw hw 84 rfl)) (mvT hZ (tw hw 270 rfl)) (by decide) (backOf (W := 0) (rm56_3 l Z a0 hw [] u1 u2 u3 GF h0 n0 Z0 P3 P4 rGF) hZ (tw hw 270 rfl) (tw hw 84 rfl) (by decide) (by decide)) (g := (mkF m 6 #[iv (Int32.ofNat u1), iv (Int32.ofNat u2.length), iv (Int32.ofNat u3)] [GF, (.int (Int32.ofNat u3)), (.int (Int32.ofNat u2.length)), (.int (Int32.ofNat u1))])) rfl (by rw [hml]; rfl) (argsL := [(.int (Int32.ofNat u1)), (.int (Int32.ofNat u2.length)), (.int (Int32.ofNat u3)), GF]) (rest := []) (lenOf pd_2 rfl) rfl (Nat.le_of_eq rfl) (hb hby d55_6) (fun _ _ => ⟨rfl, e1, (by decide : 0 + 0 ≤ _), (by decide : 0 + 0 ≤ _)⟩)
  dsimp only [Pt.U, Pt.locs, Pt.cells, Pt.slots] at X2 l2 y2 z2 st2 hQ2
  subst l2 y2 z2
  obtain ⟨rfl, N2q, e2⟩ := hQ2
  have N2 := Fr.app N0 N2q
  obtain ⟨fs, hr, hrun, hended, hW, hsame⟩ := X2.leave (v := some (.int (Int32.ofNat u1))) (fun h => by rw [hre] at h; cases h)
  refine ⟨_, _, pre0 _ ?_, hrun, hended, _, _, rfl, ?_, ⟨_, rfl⟩, hW, hsame.mono (by decide) (by decide)⟩
  · show SF p e below s₁ (mkF m 0 #[iv (Int32.ofNat u1), iv (Int32.ofNat u2.length), iv (Int32.ofNat u3)] []) _
    refine XS.iloadN X0.here hx rfl (hb hby d55_0) rfl ?_
    refine XS.iloadN X0.here hx rfl (hb hby d55_1) rfl ?_
    refine XS.iloadN X0.here hx rfl (hb hby d55_2) rfl ?_
    refine st1 _ ?_
    refine st2 _ ?_
    exact retI X2 hx hre (hb hby d55_9) hr
  · show Q55_4 Z u1 u2 u3 GF h0 n0 _ T2.heap _
    rw [e2]
    exact ⟨rfl, N2, rfl⟩
theorem pd_3 : parseMethodDescriptor "(III)I" = some ⟨[.int, .int, .int], some .int⟩ := by decide +kernel
theorem d54_9 : D54 9 (.pop) 1 := by decide +kernel
theorem d54_10 : D54 10 (.return_) 1 := by decide +kernel
theorem ef_5 (m : MethodId) (x0 : Int32) (x1 : Int32) (x2 : Addr) : entryFrame m #[(.int x0), (.int x1), (.ref x2)] 3 = mkF m 0 #[.val (.int x0), .val (.int x1), .val (.ref x2)] [] := by first | (simp [entryFrame, mkF, argsToLocals, Value.category]; done) | rfl
def Q54_5 (Z : State) (u1 : Nat) (u2 : List Int32) (u3 : Addr) (u4 : ClassId) (u5 : Nat) (u6 : List Value) (GF : Value) (h0 : Heap) (n0 : Nat) (v : Option Value) (h : Heap) (L : List Loc) : Prop := v = none ∧ Fr n0 L ∧ h = h0
theorem rm54_5 (l : Launch) (Z : State) (a0 : Array Value) (hw : HW Z a0) (ws : List Jvm.Cond) (u1 : Nat) (u2 : List Int32) (u3 : Addr) (u4 : ClassId) (u5 : Nat) (u6 : List Value) (GF : Value) (h0 : Heap) (n0 : Nat) (Z0 : n0 ≤ h0.size) (P1 : Arv Z h0 u3 u4 .byte (Int32.ofNat (2 * u5)) u6 (.int (0 : Int32))) (P2 : u5 < 100) (Sg1 : Sta Z Z.heap sq6 "SIOOBE_FORMATTER" "Ljava/util/function/BiFunction;" GF) (P4 : Old Z n0 h0) (P5 : ¬ ((((Int32.ofNat u5) ||| (Int32.ofNat u1)) ||| (Int32.ofNat u2.length)) < (0 : Int32))) (P6 : ¬ (((Int32.ofNat u5) - (Int32.ofNat u1)) < (Int32.ofNat u2.length))) (rGF : GF.isRef = true) :
    MF l Z mq35 (Jvm.Cond.code mq35 jdk_52_method_94_code 3 none) ws rq9 #[(.int (Int32.ofNat u1)), (.int (Int32.ofNat u2.length)), (.ref u3)] h0 (Q54_5 Z u1 u2 u3 u4 u5 u6 GF h0 n0) := by
  refine own_enter (plainFor_of_name pn_0) fun p e s m below meth c s₁ X0 hx hby hml hown hnm hZ e0 hre hlk => ?_
  have N0 := Fr.nil n0
  have pre0 : ∀ t, SF p e below s₁ (mkF m 0 #[iv (Int32.ofNat u1), iv (Int32.ofNat u2.length), rv u3] []) t → SF p e below s₁ (entryFrame m #[(.int (Int32.ofNat u1)), (.int (Int32.ofNat u2.length)), (.ref u3)] 3) t := fun t k => castTop (ef_5 m (Int32.ofNat u1) (Int32.ofNat u2.length) u3) k
  obtain ⟨_, _, ⟨T1, L1, k1x, n1⟩, -, X1, ⟨Lc1, hQ1, l1, y1, z1⟩, st1⟩ := Jvm.LawKit.callS X0 hx (y := mq42) hown (mvT hZ (tw hw 246 rfl)) (mvT hZ (tw hw 247 rfl)) (mvT hZ (tw hw 21 rfl)) (mvT hZ (tw hw 248 rfl)) (by decide) (backOf (W := 2) (rm50_2 l Z a0 hw [] u3 u4 u5 u6 h0 n0 Z0 P1 P2) hZ (tw hw 248 rfl) (tw hw 21 rfl) (by decide) (by decide)) (g := (mkF m 3 #[iv (Int32.ofNat u1), iv (Int32.ofNat u2.length), rv u3] [(.ref u3), (.int (Int32.ofNat u2.length)), (.int (Int32.ofNat u1))])) rfl (by rw [hml]; rfl) (argsL := [(.ref u3)]) (rest := [(.int (Int32.ofNat u2.length)), (.int (Int32.ofNat u1))]) (lenOf pd_1 rfl) rfl (Nat.le_of_eq rfl) (hb hby d54_3) (fun _ _ => ⟨rfl, e0, (by decide : 0 + 0 ≤ _), (by decide : 0 + 0 ≤ _)⟩)
  dsimp only [Pt.U, Pt.locs, Pt.cells, Pt.slots] at X1 l1 y1 z1 st1 hQ1
  subst l1 y1 z1
  obtain ⟨rfl, N1q, e1⟩ := hQ1
  have N1 := Fr.app N0 N1q
  obtain ⟨_, _, ⟨T2, L2, k2x, n2⟩, -, X2, ⟨Lc2, hQ2, l2, y2, z2⟩, st2⟩ := Jvm.LawKit.callS X1 hx (y := mq21) hown (mvT hZ (tw hw 265 rfl)) (mvT hZ (tw hw 266 rfl)) (mvT hZ (tw hw 6 rfl)) (mvT hZ (tw hw 267 rfl)) (by decide) (backOf (W := 0) (rm55_4 l Z a0 hw [] u1 u2 u5 GF h0 n0 Z0 Sg1 P4 P5 P6 rGF) hZ (tw hw 267 rfl) (tw hw 6 rfl) (by decide) (by decide)) (g := (mkF m 6 #[iv (Int32.ofNat u1), iv (Int32.ofNat u2.length), rv u3] [(.int (Int32.ofNat u5)), (.int (Int32.ofNat u2.length)), (.int (Int32.ofNat u1))])) rfl (by rw [hml]; rfl) (argsL := [(.int (Int32.ofNat u1)), (.int (Int32.ofNat u2.length)), (.int (Int32.ofNat u5))]) (rest := []) (lenOf pd_3 rfl) rfl (Nat.le_of_eq rfl) (hb hby d54_6) (fun _ _ => ⟨rfl, e1, (by decide : 0 + 0 ≤ _), (by decide : 0 + 0 ≤ _)⟩)
  dsimp only [Pt.U, Pt.locs, Pt.cells, Pt.slots] at X2 l2 y2 z2 st2 hQ2
  subst l2 y2 z2
  obtain ⟨rfl, N2q, e2⟩ := hQ2
  have N2 := Fr.app N1 N2q
  obtain ⟨fs, hr, hrun, hended, hW, hsame⟩ := X2.leave (v := none) (fun _ => rfl)
  refine ⟨_, _, pre0 _ ?_, hrun, hended, _, _, rfl, ?_, ⟨_, rfl⟩, hW, hsame.mono (by decide) (by decide)⟩
  · show SF p e below s₁ (mkF m 0 #[iv (Int32.ofNat u1), iv (Int32.ofNat u2.length), rv u3] []) _
    refine XS.iloadN X0.here hx rfl (hb hby d54_0) rfl ?_
    refine XS.iloadN X0.here hx rfl (hb hby d54_1) rfl ?_
    refine XS.aloadN X0.here hx rfl (hb hby d54_2) rfl rfl ?_
    refine st1 _ ?_
    refine st2 _ ?_
    refine XS.pop X2.here hx rfl (hb hby d54_9) rfl rfl ?_
    exact X2.returnOut hx hre (hb hby d54_10) hr
  · show Q54_5 Z u1 u2 u3 u4 u5 u6 GF h0 n0 _ T2.heap _
    rw [e2]
    exact ⟨rfl, N2, rfl⟩
theorem pd_4 : parseMethodDescriptor "(II[B)V" = some ⟨[.int, .int, (.array .byte)], none⟩ := by decide +kernel
theorem d53_7 : D53 7 (.iconst 0) 1 := by decide +kernel
theorem d53_8 : D53 8 (.istore 5) 2 := by decide +kernel
theorem infU0 (l : Launch) (Z : State) (a0 : Array Value) (hw : HW Z a0) (ws : List Jvm.Cond) (sra : Addr) (dsa : Addr) (j0 : Nat) (cs : List Int32) (kda : ClassId) (nb : Nat) (vs : List Value) (GF : Value) (ksa : ClassId) (zsa : Int32) (GC : Int32) (h0 : Heap) (n0 : Nat) (Z0 : n0 ≤ h0.size) (P1 : Arv Z h0 dsa kda .byte (Int32.ofNat (2 * nb)) vs (.int (0 : Int32))) (P2 : nb < 100) (Sg1 : Sta Z Z.heap sq6 "SIOOBE_FORMATTER" "Ljava/util/function/BiFunction;" GF) (P4 : Old Z n0 h0) (P5 : ¬ ((((Int32.ofNat nb) ||| (Int32.ofNat j0)) ||| (Int32.ofNat cs.length)) < (0 : Int32))) (P6 : ¬ (((Int32.ofNat nb) - (Int32.ofNat j0)) < (Int32.ofNat cs.length))) (rGF : GF.isRef = true) (P8 : Arv Z h0 sra ksa .byte zsa (own_lo cs) (.int (0 : Int32))) (P9 : Exa Z h0 dsa "[B") (S : St Z GC GF) (hs : cs.length ≤ zsa.toNatClampNeg) (hc : ∀ c ∈ cs, ¬ c < 0 ∧ ¬ (255 : Int32) < c) (hv : vs.length = 2 * j0) (hj : j0 + cs.length ≤ nb) (hnb : nb < 13) (gd : n0 ≤ dsa) (ne : sra ≠ dsa) :
    MF l Z mq41 (Jvm.Cond.code mq41 jdk_52_method_86_code 6 none) ws rq14 #[(.ref sra), (.int 0), (.ref dsa), (.int (Int32.ofNat j0)), (.int (Int32.ofNat cs.length))] h0 (QI Z dsa kda nb vs cs h0 n0) := by
  refine own_enter (plainFor_of_name pn_0) fun p e s m below meth c s₁ X0 hx hby hml hown hnm hZ e0 hre hlk => ?_
  have N0 := Fr.nil n0
  have pre0 : ∀ t, SF p e below s₁ (mkF m 0 #[rv sra, iv 0, rv dsa, iv (Int32.ofNat j0), iv (Int32.ofNat cs.length), .unset] []) t → SF p e below s₁ (entryFrame m #[(.ref sra), (.int 0), (.ref dsa), (.int (Int32.ofNat j0)), (.int (Int32.ofNat cs.length))] 6) t := fun t k => castTop (ef_1 m sra (0 : Int32) dsa (Int32.ofNat j0) (Int32.ofNat cs.length)) k
  obtain ⟨_, _, ⟨T1, L1, k1x, n1⟩, -, X1, ⟨Lc1, hQ1, l1, y1, z1⟩, st1⟩ := Jvm.LawKit.callS X0 hx (y := mq35) hown (mvT hZ (tw hw 262 rfl)) (mvT hZ (tw hw 263 rfl)) (mvT hZ (tw hw 21 rfl)) (mvT hZ (tw hw 264 rfl)) (by decide) (backOf (W := 0) (rm54_5 l Z a0 hw [] j0 cs dsa kda nb vs GF h0 n0 Z0 P1 P2 Sg1 P4 P5 P6 rGF) hZ (tw hw 264 rfl) (tw hw 21 rfl) (by decide) (by decide)) (g := (mkF m 4 #[rv sra, iv 0, rv dsa, iv (Int32.ofNat j0), iv (Int32.ofNat cs.length), .unset] [(.ref dsa), (.int (Int32.ofNat cs.length)), (.int (Int32.ofNat j0))])) rfl (by rw [hml]; rfl) (argsL := [(.int (Int32.ofNat j0)), (.int (Int32.ofNat cs.length)), (.ref dsa)]) (rest := []) (lenOf pd_4 rfl) rfl (Nat.le_of_eq rfl) (hb hby d53_4) (fun _ _ => ⟨rfl, e0, (by decide : 0 + 0 ≤ _), (by decide : 0 + 0 ≤ _)⟩)
  dsimp only [Pt.U, Pt.locs, Pt.cells, Pt.slots] at X1 l1 y1 z1 st1 hQ1
  subst l1 y1 z1
  obtain ⟨rfl, N1q, e1⟩ := hQ1
  have N1 := Fr.app N0 N1q
  refine Fin.pre (fun t k => pre0 _ ?_) (infL hx hZ hw hby hml hown hnm hre hlk S hs hc hv hj hnb gd ne cs.length 0 _ _ _ (Nat.zero_add _) X1 e1 N1 Z0 P4 (Keep.refl h0 [dsa]) P8 (by rw [List.take_zero]; show Arv _ _ _ _ _ _ (vs ++ []) _; rw [List.append_nil]; exact P1) P9)
  show SF p e below s₁ (mkF m 0 #[rv sra, iv 0, rv dsa, iv (Int32.ofNat j0), iv (Int32.ofNat cs.length), .unset] []) _
  refine XS.iloadN X0.here hx rfl (hb hby d53_0) rfl ?_
  refine XS.iload X0.here hx rfl (hb hby d53_1) rfl ?_
  refine XS.aloadN X0.here hx rfl (hb hby d53_3) rfl rfl ?_
  refine st1 _ ?_
  refine XS.iconst X1.here hx rfl (hb hby d53_7) ?_
  refine XS.istore X1.here hx rfl (hb hby d53_8) rfl (l' := #[rv sra, iv 0, rv dsa, iv (Int32.ofNat j0), iv (Int32.ofNat cs.length), iv 0]) rfl ?_
  exact k
theorem own_f2 : ∀ nb < 13, ∀ j0 < 13, ∀ q < 13, j0 + q ≤ nb → (¬ ((((Int32.ofNat nb) ||| (Int32.ofNat j0)) ||| (Int32.ofNat q)) < (0 : Int32))) ∧ (¬ (((Int32.ofNat nb) - (Int32.ofNat j0)) < (Int32.ofNat q))) := by decide +kernel
theorem infU (l : Launch) (Z : State) (a0 : Array Value) (hw : HW Z a0) (ws : List Jvm.Cond) (GC : Int32) (GF : Value) (sra dsa : Addr) (ksa kda : ClassId) (zsa : Int32) (nb j0 : Nat) (cs : List Int32) (vs : List Value) (h0 : Heap) (n0 : Nat) (Z0 : n0 ≤ h0.size) (S : St Z GC GF) (O : Old Z n0 h0) (As : Arv Z h0 sra ksa .byte zsa (own_lo cs) (.int (0 : Int32))) (Ad : Arv Z h0 dsa kda .byte (Int32.ofNat (2 * nb)) vs (.int (0 : Int32))) (Ed : Exa Z h0 dsa "[B") (hs : cs.length ≤ zsa.toNatClampNeg) (hc : ∀ c ∈ cs, ¬ c < 0 ∧ ¬ (255 : Int32) < c) (hv : vs.length = 2 * j0) (hj : j0 + cs.length ≤ nb) (hnb : nb < 13) (gd : n0 ≤ dsa) (ne : sra ≠ dsa) :
    MF l Z mq41 (Jvm.Cond.code mq41 jdk_52_method_86_code 6 none) ws rq14 #[(.ref sra), (.int 0), (.ref dsa), (.int (Int32.ofNat j0)), (.int (Int32.ofNat cs.length))] h0 (QI Z dsa kda nb vs cs h0 n0) := by
  have f2 := own_f2 nb hnb j0 (by omega) cs.length (by omega) hj
  exact infU0 l Z a0 hw ws sra dsa j0 cs kda nb vs GF ksa zsa GC h0 n0 Z0 Ad (by omega) S.2.1 O f2.1 f2.2 S.2.2.1 As Ed S hs hc hv hj hnb gd ne
abbrev D52 (n : Nat) (i : Instr) (k : Nat) : Prop := decode jdk_43_method_50_code n = .ok (i, k)
theorem d52_0 : D52 0 (.aload_n 0) 1 := by decide +kernel
theorem d52_1 : D52 1 (.iload_n 1) 1 := by decide +kernel
theorem d52_2 : D52 2 (.aload_n 2) 1 := by decide +kernel
theorem d52_3 : D52 3 (.iload_n 3) 1 := by decide +kernel
theorem d52_4 : D52 4 (.iload 4) 2 := by decide +kernel
theorem d52_6 : D52 6 (.invokestatic 240) 3 := by decide +kernel
theorem pd_5 : parseMethodDescriptor "([BI[BII)V" = some ⟨[(.array .byte), .int, (.array .byte), .int, .int], none⟩ := by decide +kernel
theorem d52_9 : D52 9 (.return_) 1 := by decide +kernel
theorem ef_6 (m : MethodId) (x0 : Addr) (x1 : Int32) (x2 : Addr) (x3 : Int32) (x4 : Int32) : entryFrame m #[(.ref x0), (.int x1), (.ref x2), (.int x3), (.int x4)] 5 = mkF m 0 #[.val (.ref x0), .val (.int x1), .val (.ref x2), .val (.int x3), .val (.int x4)] [] := by first | (simp [entryFrame, mkF, argsToLocals, Value.category]; done) | rfl
theorem pn_3 : plainName "java/lang/StringLatin1" = true := by first | (simp [plainName, overriddenIn]; done) | decide +kernel
def Q52_6 (Z : State) (u1 : Addr) (u2 : Addr) (u3 : Nat) (u4 : List Int32) (u5 : ClassId) (u6 : Int32) (u7 : ClassId) (u8 : Nat) (u9 : List Value) (GC : Int32) (GF : Value) (h0 : Heap) (n0 : Nat) (v : Option Value) (h : Heap) (L : List Loc) : Prop := v = none ∧ Fr n0 L ∧ Keep h0 h [u2] ∧ Exa Z h u2 "[B" ∧ Arv Z h u2 u7 .byte (Int32.ofNat (2 * u8)) (u9 ++ own_wd u4) (.int (0 : Int32))
theorem rm52_6 (l : Launch) (Z : State) (a0 : Array Value) (hw : HW Z a0) (ws : List Jvm.Cond) (u1 : Addr) (u2 : Addr) (u3 : Nat) (u4 : List Int32) (u5 : ClassId) (u6 : Int32) (u7 : ClassId) (u8 : Nat) (u9 : List Value) (GC : Int32) (GF : Value) (h0 : Heap) (n0 : Nat) (Z0 : n0 ≤ h0.size) (P1 : Arv Z h0 u1 u5 .byte u6 (own_lo u4) (.int (0 : Int32))) (P2 : Arv Z h0 u2 u7 .byte (Int32.ofNat (2 * u8)) u9 (.int (0 : Int32))) (P3 : Exa Z h0 u2 "[B") (P4 : St Z GC GF) (P5 : Old Z n0 h0) (P6 : (u4).length ≤ (u6).toNatClampNeg) (P7 : ∀ c ∈ u4, ¬ c < 0 ∧ ¬ (255 : Int32) < c) (P8 : (u9).length = 2 * (u3)) (P9 : (u3) + (u4).length ≤ u8) (P10 : u8 < 13) (P11 : n0 ≤ u2) (P12 : u1 ≠ u2) :
    MF l Z mq33 (Jvm.Cond.code mq33 jdk_43_method_50_code 5 none) ws rq17 #[(.ref u1), (.int 0), (.ref u2), (.int (Int32.ofNat u3)), (.int (Int32.ofNat u4.length))] h0 (Q52_6 Z u1 u2 u3 u4 u5 u6 u7 u8 u9 GC GF h0 n0) := by
  refine own_enter (plainFor_of_name pn_3) fun p e s m below meth c s₁ X0 hx hby hml hown hnm hZ e0 hre hlk => ?_
  have N0 := Fr.nil n0
  have pre0 : ∀ t, SF p e below s₁ (mkF m 0 #[rv u1, iv 0, rv u2, iv (Int32.ofNat u3), iv (Int32.ofNat u4.length)] []) t → SF p e below s₁ (entryFrame m #[(.ref u1), (.int 0), (.ref u2), (.int (Int32.ofNat u3)), (.int (Int32.ofNat u4.length))] 5) t := fun t k => castTop (ef_6 m u1 (0 : Int32) u2 (Int32.ofNat u3) (Int32.ofNat u4.length)) k
  obtain ⟨_, _, ⟨T1, L1, k1x, n1⟩, -, X1, ⟨Lc1, hQ1, l1, y1, z1⟩, st1⟩ := Jvm.LawKit.callS X0 hx (y := mq41) hown (mvT hZ (tw hw 259 rfl)) (mvT hZ (tw hw 260 rfl)) (mvT hZ (tw hw 21 rfl)) (mvT hZ (tw hw 261 rfl)) (by decide) (backOf (W := 0) (infU l Z a0 hw [] GC GF u1 u2 u5 u7 u6 u8 (u3) u4 u9 h0 n0 Z0 P4 P5 P1 P2 P3 P6 P7 P8 P9 P10 P11 P12) hZ (tw hw 261 rfl) (tw hw 21 rfl) (by decide) (by decide)) (g := (mkF m 6 #[rv u1, iv 0, rv u2, iv (Int32.ofNat u3), iv (Int32.ofNat u4.length)] [(.int (Int32.ofNat u4.length)), (.int (Int32.ofNat u3)), (.ref u2), (.int 0), (.ref u1)])) rfl (by rw [hml]; rfl) (argsL := [(.ref u1), (.int 0), (.ref u2), (.int (Int32.ofNat u3)), (.int (Int32.ofNat u4.length))]) (rest := []) (lenOf pd_5 rfl) rfl (Nat.le_of_eq rfl) (hb hby d52_6) (fun _ _ => ⟨rfl, e0, (by decide : 0 + 0 ≤ _), (by decide : 0 + 0 ≤ _)⟩)
  dsimp only [Pt.U, Pt.locs, Pt.cells, Pt.slots] at X1 l1 y1 z1 st1 hQ1
  subst l1 y1 z1
  obtain ⟨rfl, N1q, K1c, Fq1_0, Fq1_1⟩ := hQ1
  have K1 : Keep h0 T1.heap [u2] := (Keep.refl h0 [u2]).trans K1c (allS (Or.inl (List.mem_of_getElem? (i := 0) rfl)) all0)
  have N1 := Fr.app N0 N1q
  obtain ⟨fs, hr, hrun, hended, hW, hsame⟩ := X1.leave (v := none) (fun _ => rfl)
  refine ⟨_, _, pre0 _ ?_, hrun, hended, _, _, rfl, ?_, ⟨_, rfl⟩, hW, hsame.mono (by decide) (by decide)⟩
  · show SF p e below s₁ (mkF m 0 #[rv u1, iv 0, rv u2, iv (Int32.ofNat u3), iv (Int32.ofNat u4.length)] []) _
    refine XS.aloadN X0.here hx rfl (hb hby d52_0) rfl rfl ?_
    refine XS.iloadN X0.here hx rfl (hb hby d52_1) rfl ?_
    refine XS.aloadN X0.here hx rfl (hb hby d52_2) rfl rfl ?_
    refine XS.iloadN X0.here hx rfl (hb hby d52_3) rfl ?_
    refine XS.iload X0.here hx rfl (hb hby d52_4) rfl ?_
    refine st1 _ ?_
    exact X1.returnOut hx hre (hb hby d52_9) hr
  · show Q52_6 Z u1 u2 u3 u4 u5 u6 u7 u8 u9 GC GF h0 n0 _ T1.heap _
    exact ⟨rfl, N1, K1, Fq1_1, Fq1_0⟩
theorem infS (l : Launch) (Z : State) (a0 : Array Value) (hw : HW Z a0) (ws : List Jvm.Cond) (GC : Int32) (GF : Value) (sra dsa : Addr) (ksa kda : ClassId) (zsa : Int32) (nb j0 : Nat) (cs : List Int32) (vs : List Value) (h0 : Heap) (n0 : Nat) (Z0 : n0 ≤ h0.size) (S : St Z GC GF) (O : Old Z n0 h0) (As : Arv Z h0 sra ksa .byte zsa (own_lo cs) (.int (0 : Int32))) (Ad : Arv Z h0 dsa kda .byte (Int32.ofNat (2 * nb)) vs (.int (0 : Int32))) (Ed : Exa Z h0 dsa "[B") (hs : cs.length ≤ zsa.toNatClampNeg) (hc : ∀ c ∈ cs, ¬ c < 0 ∧ ¬ (255 : Int32) < c) (hv : vs.length = 2 * j0) (hj : j0 + cs.length ≤ nb) (hnb : nb < 13) (gd : n0 ≤ dsa) (ne : sra ≠ dsa) :
    MF l Z mq33 (Jvm.Cond.code mq33 jdk_43_method_50_code 5 none) ws rq17 #[(.ref sra), (.int 0), (.ref dsa), (.int (Int32.ofNat j0)), (.int (Int32.ofNat cs.length))] h0 (QI Z dsa kda nb vs cs h0 n0) :=
  own_mf (rm52_6 l Z a0 hw ws sra dsa j0 cs ksa zsa kda nb vs GC GF h0 n0 Z0 As Ad Ed S O hs hc hv hj hnb gd ne) fun v h L q => by obtain ⟨q1, q2, q3, q4, q5⟩ := q; exact ⟨q1, q2, q3, by first | exact q4 | exact q5, by first | exact q4 | exact q5⟩
abbrev D51 (n : Nat) (i : Instr) (k : Nat) : Prop := decode jdk_68_method_11_code n = .ok (i, k)
theorem d51_0 : D51 0 (.aload_n 0) 1 := by decide +kernel
theorem d51_1 : D51 1 (.invokevirtual 83) 3 := by decide +kernel
abbrev D35 (n : Nat) (i : Instr) (k : Nat) : Prop := decode jdk_68_method_68_code n = .ok (i, k)
theorem d35_0 : D35 0 (.getstatic 18) 3 := by decide +kernel
theorem d35_3 : D35 3 (.ifCond .eq 14) 3 := by decide +kernel
theorem d35_6 : D35 6 (.aload_n 0) 1 := by decide +kernel
theorem d35_7 : D35 7 (.getfield 22) 3 := by decide +kernel
theorem d35_10 : D35 10 (.ifCond .ne 7) 3 := by decide +kernel
theorem d35_13 : D35 13 (.iconst 1) 1 := by decide +kernel
theorem d35_14 : D35 14 (.goto 4) 3 := by decide +kernel
theorem d35_18 : D35 18 (.ireturn) 1 := by decide +kernel
theorem ef_7 (m : MethodId) (x0 : Addr) : entryFrame m #[(.ref x0)] 1 = mkF m 0 #[.val (.ref x0)] [] := by first | (simp [entryFrame, mkF, argsToLocals, Value.category]; done) | rfl
theorem pn_4 : plainName sq2 = true := by first | (simp [plainName, overriddenIn]; done) | decide +kernel
def Q35_7 (Z : State) (u1 : Addr) (GC : Int32) (h0 : Heap) (n0 : Nat) (v : Option Value) (h : Heap) (L : List Loc) : Prop := v = some (.int 1) ∧ Fr n0 L ∧ h = h0
theorem rm35_7 (l : Launch) (Z : State) (a0 : Array Value) (hw : HW Z a0) (ws : List Jvm.Cond) (u1 : Addr) (GC : Int32) (h0 : Heap) (n0 : Nat) (Z0 : n0 ≤ h0.size) (Sg0 : Sta Z Z.heap sq3 "COMPACT_STRINGS" "Z" (.int GC)) (P2 : Old Z n0 h0) (nzGC : ¬ (GC = (0 : Int32))) (P4 : Fld Z h0 u1 sq2 "coder" "B" (.int 0)) :
    MF l Z mq10 (Jvm.Cond.code mq10 jdk_68_method_68_code 1 (some .boolean)) ws rq0 #[(.ref u1)] h0 (Q35_7 Z u1 GC h0 n0) := by
  refine own_enter (plainFor_of_name pn_4) fun p e s m below meth c s₁ X0 hx hby hml hown hnm hZ e0 hre hlk => ?_
  have N0 := Fr.nil n0
  have pre0 : ∀ t, SF p e below s₁ (mkF m 0 #[rv u1] []) t → SF p e below s₁ (entryFrame m #[(.ref u1)] 1) t := fun t k => castTop (ef_7 m u1) k
  obtain ⟨T1, X1, e1, st1⟩ := getS2 X0 hx hZ hown (host := "") (Or.inl (tw hw 61 rfl)) Via.refl e0 (Sg0.ext P2.2) (g := (mkF m 0 #[rv u1] [])) rfl (hb hby d35_0)
  obtain ⟨T2, X2, e2, st2⟩ := getF X1 hx hZ hown (host := "") (Or.inl (tw hw 64 rfl)) Via.refl e1 P4 (g := (mkF m 7 #[rv u1] [(.ref u1)])) rfl rfl (hb hby d35_7)
  obtain ⟨fs, hr, hrun, hended, hW, hsame⟩ := X2.leave (v := some (.int 1)) (fun h => by rw [hre] at h; cases h)
  refine ⟨_, _, pre0 _ ?_, hrun, hended, _, _, rfl, ?_, ⟨_, rfl⟩, hW, hsame.mono (by decide) (by decide)⟩
  · show SF p e below s₁ (mkF m 0 #[rv u1] []) _
    refine st1 _ ?_
    refine XS.ifNo X1.here hx rfl (hb hby d35_3) rfl ((if0 _ _).trans (feq nzGC).1) ?_
    refine XS.aloadN X1.here hx rfl (hb hby d35_6) rfl rfl ?_
    refine st2 _ ?_
    refine XS.ifNo X2.here hx rfl (hb hby d35_10) rfl ((if0 _ _).trans (teq (by decide : (0 : Int32) = (0 : Int32))).2) ?_
    refine XS.iconst X2.here hx rfl (hb hby d35_13) ?_
    refine XS.goto X2.here hx rfl (pc0 := 14) (pc' := 18) rfl (hb hby d35_14) (by decide) (by decide) ?_
    exact retN X2 hx (t := .boolean) hre (by simp) (hb hby d35_18) hr
  · show Q35_7 Z u1 GC h0 n0 _ T2.heap _
    rw [e2]
    exact ⟨rfl, N0, rfl⟩
theorem pd_6 : parseMethodDescriptor "()Z" = some ⟨[], some .boolean⟩ := by decide +kernel
theorem d51_4 : D51 4 (.ifCond .ne 4) 3 := by decide +kernel
theorem d51_8 : D51 8 (.aload_n 0) 1 := by decide +kernel
theorem d51_9 : D51 9 (.getfield 15) 3 := by decide +kernel
theorem d51_12 : D51 12 (.arraylength) 1 := by decide +kernel
theorem d51_13 : D51 13 (.invokestatic 26) 3 := by decide +kernel
abbrev D44 (n : Nat) (i : Instr) (k : Nat) : Prop := decode jdk_52_method_2_code n = .ok (i, k)
theorem d44_0 : D44 0 (.iload_n 0) 1 := by decide +kernel
theorem d44_1 : D44 1 (.invokestatic 11) 3 := by decide +kernel
abbrev D45 (n : Nat) (i : Instr) (k : Nat) : Prop := decode jdk_52_method_3_code n = .ok (i, k)
theorem d45_0 : D45 0 (.iload_n 0) 1 := by decide +kernel
theorem d45_1 : D45 1 (.ifCond .ge 11) 3 := by decide +kernel
theorem d45_12 : D45 12 (.iload_n 0) 1 := by decide +kernel
theorem d45_13 : D45 13 (.ldc 20) 2 := by decide +kernel
theorem d45_15 : D45 15 (.if_icmp .lt 40) 3 := by decide +kernel
theorem d45_55 : D45 55 (.iload_n 0) 1 := by decide +kernel
theorem d45_56 : D45 56 (.iconst 1) 1 := by decide +kernel
theorem d45_57 : D45 57 (.ishl) 1 := by decide +kernel
theorem d45_58 : D45 58 (.ireturn) 1 := by decide +kernel
theorem ef_8 (m : MethodId) (x0 : Int32) : entryFrame m #[(.int x0)] 1 = mkF m 0 #[.val (.int x0)] [] := by first | (simp [entryFrame, mkF, argsToLocals, Value.category]; done) | rfl
def Q45_8 (Z : State) (u1 : Nat) (h0 : Heap) (n0 : Nat) (v : Option Value) (h : Heap) (L : List Loc) : Prop := v = some (.int (Int32.ofNat (2 * u1))) ∧ Fr n0 L ∧ h = h0
theorem rm45_8 (l : Launch) (Z : State) (a0 : Array Value) (hw : HW Z a0) (ws : List Jvm.Cond) (u1 : Nat) (h0 : Heap) (n0 : Nat) (Z0 : n0 ≤ h0.size) (P1 : ¬ ((Int32.ofNat u1) < (0 : Int32))) (P2 : (Int32.ofNat u1) < (1073741823 : Int32)) :
    MF l Z mq44 (Jvm.Cond.code mq44 jdk_52_method_3_code 1 (some .int)) ws rq0 #[(.int (Int32.ofNat u1))] h0 (Q45_8 Z u1 h0 n0) := by
  refine own_enter (plainFor_of_name pn_0) fun p e s m below meth c s₁ X0 hx hby hml hown hnm hZ e0 hre hlk => ?_
  have N0 := Fr.nil n0
  have pre0 : ∀ t, SF p e below s₁ (mkF m 0 #[iv (Int32.ofNat u1)] []) t → SF p e below s₁ (entryFrame m #[(.int (Int32.ofNat u1))] 1) t := fun t k => castTop (ef_8 m (Int32.ofNat u1)) k
  obtain ⟨fs, hr, hrun, hended, hW, hsame⟩ := X0.leave (v := some (.int (Int32.ofNat (2 * u1)))) (fun h => by rw [hre] at h; cases h)
  refine ⟨_, _, pre0 _ ?_, hrun, hended, _, _, rfl, ?_, ⟨_, rfl⟩, hW, hsame.mono (by decide) (by decide)⟩
  · show SF p e below s₁ (mkF m 0 #[iv (Int32.ofNat u1)] []) _
    refine XS.iloadN X0.here hx rfl (hb hby d45_0) rfl ?_
    refine XS.ifYes X0.here hx rfl (pc0 := 1) (pc' := 12) rfl (hb hby d45_1) rfl ((if0 _ _).trans (flt P1).2.1) (by decide) (by decide) ?_
    refine XS.iloadN X0.here hx rfl (hb hby d45_12) rfl ?_
    refine X0.ldcInt hx hown (mvT hZ (tw hw 230 rfl)) (g := (mkF m 13 #[iv (Int32.ofNat u1)] [(.int (Int32.ofNat u1))])) rfl (hb hby d45_13) _ ?_
    refine XS.icmpYes X0.here hx rfl (pc0 := 15) (pc' := 55) rfl (hb hby d45_15) rfl (tlt P2).1 (by decide) (by decide) ?_
    refine XS.iloadN X0.here hx rfl (hb hby d45_55) rfl ?_
    refine XS.iconst X0.here hx rfl (hb hby d45_56) ?_
    refine XS.ishl X0.here hx rfl (hb hby d45_57) rfl ?_
    show SF p e below s₁ (mkF m 58 #[iv (Int32.ofNat u1)] [(.int ((Int32.ofNat u1) <<< ((1 : Int32) &&& 31)))]) _
    rw [(show ((Int32.ofNat u1) <<< ((1 : Int32) &&& 31)) = (Int32.ofNat (2 * u1)) from own_shl1 _)]
    exact retI X0 hx hre (hb hby d45_58) hr
  · show Q45_8 Z u1 h0 n0 _ s₁.heap _
    rw [e0]
    exact ⟨rfl, N0, rfl⟩
theorem pd_7 : parseMethodDescriptor "(I)I" = some ⟨[.int], some .int⟩ := by decide +kernel
theorem d44_4 : D44 4 (.newarray .byte) 2 := by decide +kernel
theorem d44_6 : D44 6 (.areturn) 1 := by decide +kernel
theorem ef_9 (m : MethodId) (x0 : Int32) : entryFrame m #[(.int x0)] 1 = mkF m 0 #[.val (.int x0)] [] := by first | (simp [entryFrame, mkF, argsToLocals, Value.category]; done) | rfl
def Q44_9 (Z : State) (u1 : Nat) (h0 : Heap) (n0 : Nat) (v : Option Value) (h : Heap) (L : List Loc) : Prop := ∃ e1x : Addr, ∃ e2x : ClassId, h0.size ≤ e1x ∧ v = some (.ref e1x) ∧ Fr n0 L ∧ Keep h0 h [] ∧ Arv Z h e1x e2x .byte (Int32.ofNat (2 * u1)) [] (.int (0 : Int32)) ∧ Exa Z h e1x "[B"
theorem rm44_9 (l : Launch) (Z : State) (a0 : Array Value) (hw : HW Z a0) (ws : List Jvm.Cond) (u1 : Nat) (h0 : Heap) (n0 : Nat) (Z0 : n0 ≤ h0.size) (P1 : ¬ ((Int32.ofNat u1) < (0 : Int32))) (P2 : (Int32.ofNat u1) < (1073741823 : Int32)) (P3 : ¬ (Int32.ofNat (2 * u1)) < 0) (P4 : ((Int32.ofNat (2 * u1))).toNatClampNeg ≤ 24) :
    MF l Z mq43 (Jvm.Cond.code mq43 jdk_52_method_2_code 1 (some (.array .byte))) ws ({ frames := 1, cells := 1, slots := 24, locals := 12 } : Room) #[(.int (Int32.ofNat u1))] h0 (Q44_9 Z u1 h0 n0) := by
  refine own_enter (plainFor_of_name pn_0) fun p e s m below meth c s₁ X0 hx hby hml hown hnm hZ e0 hre hlk => ?_
  have N0 := Fr.nil n0
  have pre0 : ∀ t, SF p e below s₁ (mkF m 0 #[iv (Int32.ofNat u1)] []) t → SF p e below s₁ (entryFrame m #[(.int (Int32.ofNat u1))] 1) t := fun t k => castTop (ef_9 m (Int32.ofNat u1)) k
  obtain ⟨_, _, ⟨T1, L1, k1x, n1⟩, -, X1, ⟨Lc1, hQ1, l1, y1, z1⟩, st1⟩ := Jvm.LawKit.callS X0 hx (y := mq44) hown (mvT hZ (tw hw 227 rfl)) (mvT hZ (tw hw 228 rfl)) (mvT hZ (tw hw 21 rfl)) (mvT hZ (tw hw 229 rfl)) (by decide) (backOf (W := 0) (rm45_8 l Z a0 hw [] u1 h0 n0 Z0 P1 P2) hZ (tw hw 229 rfl) (tw hw 21 rfl) (by decide) (by decide)) (g := (mkF m 1 #[iv (Int32.ofNat u1)] [(.int (Int32.ofNat u1))])) rfl (by rw [hml]; rfl) (argsL := [(.int (Int32.ofNat u1))]) (rest := []) (lenOf pd_7 rfl) rfl (Nat.le_of_eq rfl) (hb hby d44_1) (fun _ _ => ⟨rfl, e0, (by decide : 0 + 0 ≤ _), (by decide : 0 + 0 ≤ _)⟩)
  dsimp only [Pt.U, Pt.locs, Pt.cells, Pt.slots] at X1 l1 y1 z1 st1 hQ1
  subst l1 y1 z1
  obtain ⟨rfl, N1q, e1⟩ := hQ1
  have N1 := Fr.app N0 N1q
  obtain ⟨T2, h2, e2x, X2, e2, E2, A2, Ex2, st2⟩ := newPE X1 hx hZ (tw hw 23 rfl) e1 (g := (mkF m 4 #[iv (Int32.ofNat u1)] [(.int (Int32.ofNat (2 * u1)))])) rfl (hb hby d44_4) rfl P3 (cap := 24) P4 (by decide) (by decide) (by decide) (ad := "[B") rfl
  obtain ⟨e1x, g2⟩ : ∃ z, z = h0.size := ⟨_, rfl⟩
  rw [← g2] at A2 st2 Ex2
  have K2 : Keep h0 h2 [] := (Keep.refl h0 []).ext E2
  have V2 : Arv Z h2 e1x e2x .byte (Int32.ofNat (2 * u1)) [] (.int (0 : Int32)) := Arv.new A2 P3
  have sz0_b2 : h0.size ≤ e1x := Nat.le_trans (Keep.refl h0 []).1 (Nat.le_of_eq g2.symm)
  obtain ⟨fs, hr, hrun, hended, hW, hsame⟩ := X2.leave (v := some (.ref e1x)) (fun h => by rw [hre] at h; cases h)
  refine ⟨_, _, pre0 _ ?_, hrun, hended, _, _, rfl, ?_, ⟨_, rfl⟩, hW, hsame.mono (by decide) (by decide)⟩
  · show SF p e below s₁ (mkF m 0 #[iv (Int32.ofNat u1)] []) _
    refine XS.iloadN X0.here hx rfl (hb hby d44_0) rfl ?_
    refine st1 _ ?_
    refine st2 _ ?_
    exact own_retR X2 hx hre rfl rfl (hb hby d44_6) hr
  · show Q44_9 Z u1 h0 n0 _ T2.heap _
    rw [e2]
    exact ⟨e1x, e2x, sz0_b2, rfl, N1, K2, V2, Ex2⟩
theorem pd_8 : parseMethodDescriptor "(I)[B" = some ⟨[.int], some (.array .byte)⟩ := by decide +kernel
theorem d51_16 : D51 16 (.astore_n 1) 1 := by decide +kernel
theorem d51_17 : D51 17 (.aload_n 0) 1 := by decide +kernel
theorem d51_18 : D51 18 (.getfield 15) 3 := by decide +kernel
theorem d51_21 : D51 21 (.iconst 0) 1 := by decide +kernel
theorem d51_22 : D51 22 (.aload_n 1) 1 := by decide +kernel
theorem d51_23 : D51 23 (.iconst 0) 1 := by decide +kernel
theorem d51_24 : D51 24 (.aload_n 0) 1 := by decide +kernel
theorem d51_25 : D51 25 (.getfield 79) 3 := by decide +kernel
theorem d51_28 : D51 28 (.invokestatic 125) 3 := by decide +kernel
theorem d51_31 : D51 31 (.aload_n 0) 1 := by decide +kernel
theorem d51_32 : D51 32 (.aload_n 1) 1 := by decide +kernel
theorem d51_33 : D51 33 (.putfield 15) 3 := by decide +kernel
theorem d51_36 : D51 36 (.aload_n 0) 1 := by decide +kernel
theorem d51_37 : D51 37 (.iconst 1) 1 := by decide +kernel
theorem d51_38 : D51 38 (.putfield 22) 3 := by decide +kernel
theorem d51_41 : D51 41 (.return_) 1 := by decide +kernel
theorem ef_10 (m : MethodId) (x0 : Addr) : entryFrame m #[(.ref x0)] 2 = mkF m 0 #[.val (.ref x0), .unset] [] := by first | (simp [entryFrame, mkF, argsToLocals, Value.category]; done) | rfl
def Q51_10 (Z : State) (u1 : Addr) (GC : Int32) (u2 : Addr) (u3 : ClassId) (u4 : Nat) (u5 : List Int32) (GF : Value) (h0 : Heap) (n0 : Nat) (v : Option Value) (h : Heap) (L : List Loc) : Prop := ∃ e1x : Addr, ∃ e2x : ClassId, h0.size ≤ e1x ∧ v = none ∧ Fr n0 L ∧ Keep h0 h [u1] ∧ Exa Z h u1 sq4 ∧ Fld Z h u1 sq2 "coder" "B" (.int 1) ∧ Fld Z h u1 sq2 "value" "[B" (.ref e1x) ∧ Fld Z h u1 sq2 "count" "I" (.int (Int32.ofNat u5.length)) ∧ Fld Z h u1 sq2 "maybeLatin1" "Z" (.int 0) ∧ Exa Z h e1x "[B" ∧ Arv Z h e1x e2x .byte (Int32.ofNat (2 * u4)) (([] : List Value) ++ own_wd u5) (.int (0 : Int32))
theorem rm51_10 (l : Launch) (Z : State) (a0 : Array Value) (hw : HW Z a0) (ws : List Jvm.Cond) (u1 : Addr) (GC : Int32) (u2 : Addr) (u3 : ClassId) (u4 : Nat) (u5 : List Int32) (GF : Value) (h0 : Heap) (n0 : Nat) (Z0 : n0 ≤ h0.size) (P1 : Exa Z h0 u1 sq4) (Sg0 : Sta Z Z.heap sq3 "COMPACT_STRINGS" "Z" (.int GC)) (P3 : Old Z n0 h0) (nzGC : ¬ (GC = (0 : Int32))) (P5 : Fld Z h0 u1 sq2 "coder" "B" (.int 0)) (P6 : Fld Z h0 u1 sq2 "value" "[B" (.ref u2)) (P7 : Arv Z h0 u2 u3 .byte (Int32.ofNat u4) (own_lo u5) (.int (0 : Int32))) (P8 : ¬ ((Int32.ofNat u4) < (0 : Int32))) (P9 : (Int32.ofNat u4) < (1073741823 : Int32)) (P10 : ¬ (Int32.ofNat (2 * u4)) < 0) (P11 : ((Int32.ofNat (2 * u4))).toNatClampNeg ≤ 24) (P12 : Fld Z h0 u1 sq2 "count" "I" (.int (Int32.ofNat u5.length))) (P13 : St Z GC GF) (P14 : (u5).length ≤ ((Int32.ofNat u4)).toNatClampNeg) (P15 : ∀ c ∈ u5, ¬ c < 0 ∧ ¬ (255 : Int32) < c) (P16 : (0) + (u5).length ≤ u4) (P17 : u4 < 13) (P18 : u2 < h0.size) (P19 : Fld Z h0 u1 sq2 "maybeLatin1" "Z" (.int 0)) (P20 : u1 < h0.size) (P21 : n0 ≤ u1) :
    MF l Z mq8 (Jvm.Cond.code mq8 jdk_68_method_11_code 2 none) ws ({ frames := 6, cells := 1, slots := 24, locals := 103 } : Room) #[(.ref u1)] h0 (Q51_10 Z u1 GC u2 u3 u4 u5 GF h0 n0) := by
  refine own_enter (plainFor_of_name pn_4) fun p e s m below meth c s₁ X0 hx hby hml hown hnm hZ e0 hre hlk => ?_
  have N0 := Fr.nil n0
  have pre0 : ∀ t, SF p e below s₁ (mkF m 0 #[rv u1, .unset] []) t → SF p e below s₁ (entryFrame m #[(.ref u1)] 2) t := fun t k => castTop (ef_10 m u1) k
  obtain ⟨cq1, kq1, q1a, q1b, q1c⟩ := isOf hZ e0 P1
  obtain ⟨_, _, ⟨T1, L1, k1x, n1⟩, -, X1, ⟨Lc1, hQ1, l1, y1, z1⟩, st1⟩ := X0.virtualBack hx (y := mq10) (z := mq10) hown (mvT hZ (tw hw 205 rfl)) (mvT hZ (tw hw 178 rfl)) (notFace_of_selects (args := #[]) (mvT hZ (tw hw 180 rfl))) (mvT hZ (tw hw 180 rfl)) (mvT hZ (tw hw 179 rfl)) (by decide) (backOf (W := 0) (rm35_7 l Z a0 hw [] u1 GC h0 n0 Z0 Sg0 P3 nzGC P5) hZ (tw hw 181 rfl) (tw hw 58 rfl) (by decide) (by decide)) q1a q1c (g := (mkF m 1 #[rv u1, .unset] [(.ref u1)])) rfl (by rw [hml]; rfl) (Steps.refl _) (argsL := []) (rest := []) (lenOf pd_6 rfl) rfl (Nat.le_of_eq rfl) (hb hby d51_1) (fun _ _ => ⟨rfl, e0, (by decide : 0 + 0 ≤ _), (by decide : 0 + 0 ≤ _)⟩)
  dsimp only [Pt.U, Pt.locs, Pt.cells, Pt.slots] at X1 l1 y1 z1 st1 hQ1
  subst l1 y1 z1
  obtain ⟨rfl, N1q, e1⟩ := hQ1
  have N1 := Fr.app N0 N1q
  obtain ⟨T2, X2, e2, st2⟩ := getF X1 hx hZ hown (host := "") (Or.inl (tw hw 62 rfl)) Via.refl e1 P6 (g := (mkF m 9 #[rv u1, .unset] [(.ref u1)])) rfl rfl (hb hby d51_9)
  obtain ⟨cl3, Ar3, q3, S3, N3z, H3, G3⟩ := id P7
  obtain ⟨_, _, ⟨T4, L4, k4x, n4⟩, -, X4, ⟨Lc4, hQ4, l4, y4, z4⟩, st4⟩ := Jvm.LawKit.callS X2 hx (y := mq43) hown (mvT hZ (tw hw 255 rfl)) (mvT hZ (tw hw 225 rfl)) (mvT hZ (tw hw 21 rfl)) (mvT hZ (tw hw 226 rfl)) (by decide) (backOf (W := 0) (rm44_9 l Z a0 hw [] u4 h0 n0 Z0 P8 P9 P10 P11) hZ (tw hw 226 rfl) (tw hw 21 rfl) (by decide) (by decide)) (g := (mkF m 13 #[rv u1, .unset] [(.int (Int32.ofNat u4))])) rfl (by rw [hml]; rfl) (argsL := [(.int (Int32.ofNat u4))]) (rest := []) (lenOf pd_8 rfl) rfl (Nat.le_of_eq rfl) (hb hby d51_13) (fun _ _ => ⟨rfl, e2, (by decide : 0 + 1 ≤ _), (by decide : 0 + 24 ≤ _)⟩)
  dsimp only [Pt.U, Pt.locs, Pt.cells, Pt.slots] at X4 l4 y4 z4 st4 hQ4
  subst l4 y4 z4
  obtain ⟨e1x, e2x, bz_b3, rfl, N4q, K4c, Fq4_0, Fq4_1⟩ := hQ4
  have K4 : Keep h0 T4.heap [u1] := (Keep.refl h0 [u1]).trans K4c all0
  have N4 := Fr.app N1 N4q
  have F1_5 : Fld Z T4.heap u1 sq2 "value" "[B" (.ref u2) := P6.keep K4c nin0
  obtain ⟨T6, X6, e6, st6⟩ := getF X4 hx hZ hown (host := "") (Or.inl (tw hw 62 rfl)) Via.refl rfl F1_5 (g := (mkF m 18 #[rv u1, rv e1x] [(.ref u1)])) rfl rfl (hb hby d51_18)
  have F1_7 : Fld Z T4.heap u1 sq2 "count" "I" (.int (Int32.ofNat u5.length)) := P12.keep K4c nin0
  obtain ⟨T8, X8, e8, st8⟩ := getF X6 hx hZ hown (host := "") (Or.inl (tw hw 102 rfl)) Via.refl e6 F1_7 (g := (mkF m 25 #[rv u1, rv e1x] [(.ref u1), (.int 0), (.ref e1x), (.int 0), (.ref u2)])) rfl rfl (hb hby d51_25)
  have F1_9 : Arv Z T4.heap u2 u3 .byte (Int32.ofNat u4) (own_lo u5) (.int (0 : Int32)) := P7.keep K4c nin0
  have O4 : Old Z n0 T4.heap := P3.keep K4c all0
  have g_b3 : n0 ≤ e1x := Nat.le_trans Z0 bz_b3
  have Z4 : n0 ≤ T4.heap.size := Nat.le_trans Z0 K4c.1
  obtain ⟨_, _, ⟨T10, L10, k10x, n10⟩, -, X10, ⟨Lc10, hQ10, l10, y10, z10⟩, st10⟩ := Jvm.LawKit.callS X8 hx (y := mq33) hown (mvT hZ (tw hw 256 rfl)) (mvT hZ (tw hw 257 rfl)) (mvT hZ (tw hw 78 rfl)) (mvT hZ (tw hw 258 rfl)) (by decide) (backOf (W := 0) (infS l Z a0 hw [] GC GF u2 e1x u3 e2x (Int32.ofNat u4) u4 (0) u5 ([] : List Value) T4.heap n0 Z4 P13 O4 F1_9 Fq4_0 Fq4_1 P14 P15 rfl P16 P17 g_b3 (Nat.ne_of_lt (Nat.lt_of_lt_of_le P18 bz_b3))) hZ (tw hw 258 rfl) (tw hw 78 rfl) (by decide) (by decide)) (g := (mkF m 28 #[rv u1, rv e1x] [(.int (Int32.ofNat u5.length)), (.int 0), (.ref e1x), (.int 0), (.ref u2)])) rfl (by rw [hml]; rfl) (argsL := [(.ref u2), (.int 0), (.ref e1x), (.int 0), (.int (Int32.ofNat u5.length))]) (rest := []) (lenOf pd_5 rfl) rfl (Nat.le_of_eq rfl) (hb hby d51_28) (fun _ _ => ⟨rfl, e8, (by decide : 1 + 0 ≤ _), (by decide : 24 + 0 ≤ _)⟩)
  dsimp only [Pt.U, Pt.locs, Pt.cells, Pt.slots] at X10 l10 y10 z10 st10 hQ10
  subst l10 y10 z10
  obtain ⟨rfl, N10q, K10c, Fq10_0, Fq10_1⟩ := hQ10
  have sz0_b3 : h0.size ≤ e1x := Nat.le_trans (Keep.refl h0 [u1]).1 bz_b3
  have K10 : Keep h0 T10.heap [u1] := K4.trans K10c (allS (Or.inr sz0_b3) all0)
  have N10 := Fr.app N4 N10q
  have F1_11 : Fld Z T4.heap u1 sq2 "maybeLatin1" "Z" (.int 0) := P19.keep K4c nin0
  have F2_12 : Fld Z T10.heap u1 sq2 "maybeLatin1" "Z" (.int 0) := F1_11.keep K10c (ninS (Nat.ne_of_lt (Nat.lt_of_lt_of_le P20 bz_b3)) nin0)
  have F1_13 : Exa Z T4.heap u1 sq4 := P1.keep K4c
  have F2_14 : Exa Z T10.heap u1 sq4 := F1_13.keep K10c
  have F2_15 : Fld Z T10.heap u1 sq2 "value" "[B" (.ref u2) := F1_5.keep K10c (ninS (Nat.ne_of_lt (Nat.lt_of_lt_of_le P20 bz_b3)) nin0)
  have F1_16 : Fld Z T4.heap u1 sq2 "coder" "B" (.int 0) := P5.keep K4c nin0
  have F2_17 : Fld Z T10.heap u1 sq2 "coder" "B" (.int 0) := F1_16.keep K10c (ninS (Nat.ne_of_lt (Nat.lt_of_lt_of_le P20 bz_b3)) nin0)
  have F2_18 : Fld Z T10.heap u1 sq2 "count" "I" (.int (Int32.ofNat u5.length)) := F1_7.keep K10c (ninS (Nat.ne_of_lt (Nat.lt_of_lt_of_le P20 bz_b3)) nin0)
  obtain ⟨T19, h19, X19, e19, W19, st19⟩ := putF X10 hx hZ hown (host := "") (Or.inl (tw hw 62 rfl)) Via.refl rfl F2_15 F2_14 (Or.inl (tw hw 63 rfl)) (tw hw 39 rfl) (ty := (.array .byte)) (by decide) rfl rfl (g := (mkF m 33 #[rv u1, rv e1x] [(.ref e1x), (.ref u1)])) rfl rfl (hb hby d51_33)
  have K19 : Keep h0 h19 [u1] := K10.wr W19 (Or.inl (List.mem_of_getElem? (i := 0) rfl))
  have N19 := Fr.snoc X19 N10 P21
  have Fw19 : Fld Z h19 u1 sq2 "value" "[B" (.ref e1x) := F2_15.same W19
  have F3_20 : Exa Z h19 u1 sq4 := F2_14.wr W19
  have F3_21 : Fld Z h19 u1 sq2 "coder" "B" (.int 0) := F2_17.other W19 (Or.inr (slot_ne (Or.inl (tw hw 65 rfl)) (Or.inl (tw hw 63 rfl)) (by decide) (t := .byte) (t' := (.array .byte)) (by decide) (by decide)))
  have F3_22 : Fld Z h19 u1 sq2 "count" "I" (.int (Int32.ofNat u5.length)) := F2_18.other W19 (Or.inr (slot_ne (Or.inl (tw hw 103 rfl)) (Or.inl (tw hw 63 rfl)) (by decide) (t := .int) (t' := (.array .byte)) (by decide) (by decide)))
  have F3_23 : Fld Z h19 u1 sq2 "maybeLatin1" "Z" (.int 0) := F2_12.other W19 (Or.inr (slot_ne (Or.inl (tw hw 275 rfl)) (Or.inl (tw hw 63 rfl)) (by decide) (t := .boolean) (t' := (.array .byte)) (by decide) (by decide)))
  obtain ⟨T24, h24, X24, e24, W24, st24⟩ := putFN X19 hx hZ hown (tw hw 64 rfl) Via.refl e19 F3_21 F3_20 (Or.inl (tw hw 65 rfl)) (tw hw 39 rfl) (ty := .byte) (v' := (.int 1)) (by decide) (by decide) (by decide) (g := (mkF m 38 #[rv u1, rv e1x] [(.int 1), (.ref u1)])) rfl rfl (hb hby d51_38)
  have K24 : Keep h0 h24 [u1] := K19.wr W24 (Or.inl (List.mem_of_getElem? (i := 0) rfl))
  have N24 := Fr.snoc X24 N19 P21
  have Fw24 : Fld Z h24 u1 sq2 "coder" "B" (.int 1) := F3_21.same W24
  have F4_25 : Exa Z h24 u1 sq4 := F3_20.wr W24
  have F4_26 : Fld Z h24 u1 sq2 "value" "[B" (.ref e1x) := Fw19.other W24 (Or.inr (slot_ne (Or.inl (tw hw 63 rfl)) (Or.inl (tw hw 65 rfl)) (by decide) (t := (.array .byte)) (t' := .byte) (by decide) (by decide)))
  have F4_27 : Fld Z h24 u1 sq2 "count" "I" (.int (Int32.ofNat u5.length)) := F3_22.other W24 (Or.inr (slot_ne (Or.inl (tw hw 103 rfl)) (Or.inl (tw hw 65 rfl)) (by decide) (t := .int) (t' := .byte) (by decide) (by decide)))
  have F4_28 : Fld Z h24 u1 sq2 "maybeLatin1" "Z" (.int 0) := F3_23.other W24 (Or.inr (slot_ne (Or.inl (tw hw 275 rfl)) (Or.inl (tw hw 65 rfl)) (by decide) (t := .boolean) (t' := .byte) (by decide) (by decide)))
  have F3_29 : Exa Z h19 e1x "[B" := Fq10_1.wr W19
  have F4_30 : Exa Z h24 e1x "[B" := F3_29.wr W24
  have F3_31 : Arv Z h19 e1x e2x .byte (Int32.ofNat (2 * u4)) (([] : List Value) ++ own_wd u5) (.int (0 : Int32)) := Fq10_0.other W19 (Ne.symm (Nat.ne_of_lt (Nat.lt_of_lt_of_le P20 bz_b3)))
  have F4_32 : Arv Z h24 e1x e2x .byte (Int32.ofNat (2 * u4)) (([] : List Value) ++ own_wd u5) (.int (0 : Int32)) := F3_31.other W24 (Ne.symm (Nat.ne_of_lt (Nat.lt_of_lt_of_le P20 bz_b3)))
  obtain ⟨fs, hr, hrun, hended, hW, hsame⟩ := X24.leave (v := none) (fun _ => rfl)
  refine ⟨_, _, pre0 _ ?_, hrun, hended, _, _, rfl, ?_, ⟨_, rfl⟩, hW, hsame.mono (by decide) (by decide)⟩
  · show SF p e below s₁ (mkF m 0 #[rv u1, .unset] []) _
    refine XS.aloadN X0.here hx rfl (hb hby d51_0) rfl rfl ?_
    refine st1.trans ?_
    refine XS.ifYes X1.here hx rfl (pc0 := 4) (pc' := 8) rfl (hb hby d51_4) rfl ((if0 _ _).trans (feq (by decide : ¬ ((1 : Int32) = (0 : Int32)))).2) (by decide) (by decide) ?_
    refine XS.aloadN X1.here hx rfl (hb hby d51_8) rfl rfl ?_
    refine st2 _ ?_
    refine X2.arraylength hx (by rw [e2]; exact Ar3.1) (State.isArrayOf_alike hZ.alike Ar3.2.1) (g := (mkF m 12 #[rv u1, .unset] [(.ref u2)])) rfl rfl (hb hby d51_12) _ ?_
    rw [len_of S3 N3z]
    refine st4 _ ?_
    refine XS.astoreN X4.here hx rfl (hb hby d51_16) rfl rfl (l' := #[rv u1, rv e1x]) rfl ?_
    refine XS.aloadN X4.here hx rfl (hb hby d51_17) rfl rfl ?_
    refine st6 _ ?_
    refine XS.iconst X6.here hx rfl (hb hby d51_21) ?_
    refine XS.aloadN X6.here hx rfl (hb hby d51_22) rfl rfl ?_
    refine XS.iconst X6.here hx rfl (hb hby d51_23) ?_
    refine XS.aloadN X6.here hx rfl (hb hby d51_24) rfl rfl ?_
    refine st8 _ ?_
    refine st10 _ ?_
    refine XS.aloadN X10.here hx rfl (hb hby d51_31) rfl rfl ?_
    refine XS.aloadN X10.here hx rfl (hb hby d51_32) rfl rfl ?_
    refine st19 _ ?_
    refine XS.aloadN X19.here hx rfl (hb hby d51_36) rfl rfl ?_
    refine XS.iconst X19.here hx rfl (hb hby d51_37) ?_
    refine st24 _ ?_
    exact X24.returnOut hx hre (hb hby d51_41) hr
  · show Q51_10 Z u1 GC u2 u3 u4 u5 GF h0 n0 _ T24.heap _
    rw [e24]
    exact ⟨e1x, e2x, sz0_b3, rfl, N24, K24, F4_25, Fw24, F4_26, F4_27, F4_28, F4_30, F4_32⟩
abbrev D20 (n : Nat) (i : Instr) (k : Nat) : Prop := decode jdk_68_method_9_code n = .ok (i, k)
theorem d20_0 : D20 0 (.aload_n 0) 1 := by decide +kernel
theorem d20_1 : D20 1 (.getfield 15) 3 := by decide +kernel
theorem d20_4 : D20 4 (.arraylength) 1 := by decide +kernel
theorem d20_5 : D20 5 (.aload_n 0) 1 := by decide +kernel
theorem d20_6 : D20 6 (.getfield 22) 3 := by decide +kernel
theorem d20_9 : D20 9 (.ishr) 1 := by decide +kernel
theorem d20_10 : D20 10 (.istore_n 2) 1 := by decide +kernel
theorem d20_11 : D20 11 (.iload_n 1) 1 := by decide +kernel
theorem d20_12 : D20 12 (.iload_n 2) 1 := by decide +kernel
theorem d20_13 : D20 13 (.isub) 1 := by decide +kernel
theorem d20_14 : D20 14 (.ifCond .le 24) 3 := by decide +kernel
theorem d20_38 : D20 38 (.return_) 1 := by decide +kernel
theorem ef_11 (m : MethodId) (x0 : Addr) (x1 : Int32) : entryFrame m #[(.ref x0), (.int x1)] 3 = mkF m 0 #[.val (.ref x0), .val (.int x1), .unset] [] := by first | (simp [entryFrame, mkF, argsToLocals, Value.category]; done) | rfl
def Q20_11 (Z : State) (u1 : Addr) (u2 : Nat) (u3 : Addr) (u4 : ClassId) (u5 : Nat) (u6 : List Int32) (h0 : Heap) (n0 : Nat) (v : Option Value) (h : Heap) (L : List Loc) : Prop := v = none ∧ Fr n0 L ∧ h = h0
theorem rm20_11 (l : Launch) (Z : State) (a0 : Array Value) (hw : HW Z a0) (ws : List Jvm.Cond) (u1 : Addr) (u2 : Nat) (u3 : Addr) (u4 : ClassId) (u5 : Nat) (u6 : List Int32) (h0 : Heap) (n0 : Nat) (Z0 : n0 ≤ h0.size) (P1 : Fld Z h0 u1 sq2 "value" "[B" (.ref u3)) (P2 : Arv Z h0 u3 u4 .byte (Int32.ofNat u5) (own_lo u6) (.int (0 : Int32))) (P3 : Fld Z h0 u1 sq2 "coder" "B" (.int 0)) (P4 : ¬ ((0 : Int32) < ((Int32.ofNat u2) - (Int32.ofNat u5)))) :
    MF l Z mq6 (Jvm.Cond.code mq6 jdk_68_method_9_code 3 none) ws rq18 #[(.ref u1), (.int (Int32.ofNat u2))] h0 (Q20_11 Z u1 u2 u3 u4 u5 u6 h0 n0) := by
  refine own_enter (plainFor_of_name pn_4) fun p e s m below meth c s₁ X0 hx hby hml hown hnm hZ e0 hre hlk => ?_
  have N0 := Fr.nil n0
  have pre0 : ∀ t, SF p e below s₁ (mkF m 0 #[rv u1, iv (Int32.ofNat u2), .unset] []) t → SF p e below s₁ (entryFrame m #[(.ref u1), (.int (Int32.ofNat u2))] 3) t := fun t k => castTop (ef_11 m u1 (Int32.ofNat u2)) k
  obtain ⟨T1, X1, e1, st1⟩ := getF X0 hx hZ hown (host := "") (Or.inl (tw hw 62 rfl)) Via.refl e0 P1 (g := (mkF m 1 #[rv u1, iv (Int32.ofNat u2), .unset] [(.ref u1)])) rfl rfl (hb hby d20_1)
  obtain ⟨cl2, Ar2, q2, S2, N2z, H2, G2⟩ := id P2
  obtain ⟨T3, X3, e3, st3⟩ := getF X1 hx hZ hown (host := "") (Or.inl (tw hw 64 rfl)) Via.refl e1 P3 (g := (mkF m 6 #[rv u1, iv (Int32.ofNat u2), .unset] [(.ref u1), (.int (Int32.ofNat u5))])) rfl rfl (hb hby d20_6)
  obtain ⟨fs, hr, hrun, hended, hW, hsame⟩ := X3.leave (v := none) (fun _ => rfl)
  refine ⟨_, _, pre0 _ ?_, hrun, hended, _, _, rfl, ?_, ⟨_, rfl⟩, hW, hsame.mono (by decide) (by decide)⟩
  · show SF p e below s₁ (mkF m 0 #[rv u1, iv (Int32.ofNat u2), .unset] []) _
    refine XS.aloadN X0.here hx rfl (hb hby d20_0) rfl rfl ?_
    refine st1 _ ?_
    refine X1.arraylength hx (by rw [e1]; exact Ar2.1) (State.isArrayOf_alike hZ.alike Ar2.2.1) (g := (mkF m 4 #[rv u1, iv (Int32.ofNat u2), .unset] [(.ref u3)])) rfl rfl (hb hby d20_4) _ ?_
    rw [len_of S2 N2z]
    refine XS.aloadN X1.here hx rfl (hb hby d20_5) rfl rfl ?_
    refine st3 _ ?_
    refine XS.ishr X3.here hx rfl (hb hby d20_9) rfl ?_
    show SF p e below T3 (mkF m 10 #[rv u1, iv (Int32.ofNat u2), .unset] [(.int ((Int32.ofNat u5) >>> ((0 : Int32) &&& 31)))]) _
    rw [(show ((Int32.ofNat u5) >>> ((0 : Int32) &&& 31)) = (Int32.ofNat u5) from StrChars.shr0 _)]
    refine XS.istoreN X3.here hx rfl (hb hby d20_10) rfl (l' := #[rv u1, iv (Int32.ofNat u2), iv (Int32.ofNat u5)]) rfl ?_
    refine XS.iloadN X3.here hx rfl (hb hby d20_11) rfl ?_
    refine XS.iloadN X3.here hx rfl (hb hby d20_12) rfl ?_
    refine XS.isub X3.here hx rfl (hb hby d20_13) rfl ?_
    refine XS.ifYes X3.here hx rfl (pc0 := 14) (pc' := 38) rfl (hb hby d20_14) rfl ((if0 _ _).trans (flt P4).2.2.2) (by decide) (by decide) ?_
    exact X3.returnOut hx hre (hb hby d20_38) hr
  · show Q20_11 Z u1 u2 u3 u4 u5 u6 h0 n0 _ T3.heap _
    rw [e3]
    exact ⟨rfl, N0, rfl⟩
theorem d20_17 : D20 17 (.aload_n 0) 1 := by decide +kernel
theorem d20_18 : D20 18 (.aload_n 0) 1 := by decide +kernel
theorem d20_19 : D20 19 (.getfield 15) 3 := by decide +kernel
theorem d20_22 : D20 22 (.aload_n 0) 1 := by decide +kernel
theorem d20_23 : D20 23 (.iload_n 1) 1 := by decide +kernel
theorem d20_24 : D20 24 (.invokevirtual 104) 3 := by decide +kernel
abbrev D21 (n : Nat) (i : Instr) (k : Nat) : Prop := decode jdk_68_method_10_code n = .ok (i, k)
theorem d21_0 : D21 0 (.aload_n 0) 1 := by decide +kernel
theorem d21_1 : D21 1 (.getfield 15) 3 := by decide +kernel
theorem d21_4 : D21 4 (.arraylength) 1 := by decide +kernel
theorem d21_5 : D21 5 (.istore_n 2) 1 := by decide +kernel
theorem d21_6 : D21 6 (.iload_n 1) 1 := by decide +kernel
theorem d21_7 : D21 7 (.aload_n 0) 1 := by decide +kernel
theorem d21_8 : D21 8 (.getfield 22) 3 := by decide +kernel
theorem d21_11 : D21 11 (.ishl) 1 := by decide +kernel
theorem d21_12 : D21 12 (.istore_n 3) 1 := by decide +kernel
theorem d21_13 : D21 13 (.iload_n 3) 1 := by decide +kernel
theorem d21_14 : D21 14 (.iload_n 2) 1 := by decide +kernel
theorem d21_15 : D21 15 (.isub) 1 := by decide +kernel
theorem d21_16 : D21 16 (.istore 4) 2 := by decide +kernel
theorem d21_18 : D21 18 (.iload_n 2) 1 := by decide +kernel
theorem d21_19 : D21 19 (.iload 4) 2 := by decide +kernel
theorem d21_21 : D21 21 (.iload_n 2) 1 := by decide +kernel
theorem d21_22 : D21 22 (.iconst 2) 1 := by decide +kernel
theorem d21_23 : D21 23 (.aload_n 0) 1 := by decide +kernel
theorem d21_24 : D21 24 (.getfield 22) 3 := by decide +kernel
theorem d21_27 : D21 27 (.ishl) 1 := by decide +kernel
theorem d21_28 : D21 28 (.iadd) 1 := by decide +kernel
theorem d21_29 : D21 29 (.invokestatic 114) 3 := by decide +kernel
abbrev D22 (n : Nat) (i : Instr) (k : Nat) : Prop := decode jdk_48_method_27_code n = .ok (i, k)
theorem d22_0 : D22 0 (.iload_n 0) 1 := by decide +kernel
theorem d22_1 : D22 1 (.iload_n 1) 1 := by decide +kernel
theorem d22_2 : D22 2 (.iload_n 2) 1 := by decide +kernel
theorem d22_3 : D22 3 (.invokestatic 194) 3 := by decide +kernel
abbrev D23 (n : Nat) (i : Instr) (k : Nat) : Prop := decode jdk_29_method_65_code n = .ok (i, k)
theorem d23_0 : D23 0 (.iload_n 0) 1 := by decide +kernel
theorem d23_1 : D23 1 (.iload_n 1) 1 := by decide +kernel
theorem d23_2 : D23 2 (.if_icmp .lt 7) 3 := by decide +kernel
theorem d23_9 : D23 9 (.iload_n 1) 1 := by decide +kernel
theorem d23_10 : D23 10 (.ireturn) 1 := by decide +kernel
theorem ef_12 (m : MethodId) (x0 : Int32) (x1 : Int32) : entryFrame m #[(.int x0), (.int x1)] 2 = mkF m 0 #[.val (.int x0), .val (.int x1)] [] := by first | (simp [entryFrame, mkF, argsToLocals, Value.category]; done) | rfl
def Q23_12 (Z : State) (u1 : Nat) (u2 : Nat) (h0 : Heap) (n0 : Nat) (v : Option Value) (h : Heap) (L : List Loc) : Prop := v = some (.int (Int32.ofNat (u2 + 2))) ∧ Fr n0 L ∧ h = h0
theorem rm23_12 (l : Launch) (Z : State) (a0 : Array Value) (hw : HW Z a0) (ws : List Jvm.Cond) (u1 : Nat) (u2 : Nat) (h0 : Heap) (n0 : Nat) (Z0 : n0 ≤ h0.size) (P1 : ((Int32.ofNat u1) - (Int32.ofNat u2)) < (Int32.ofNat (u2 + 2))) :
    MF l Z mq14 (Jvm.Cond.code mq14 jdk_29_method_65_code 2 (some .int)) ws rq0 #[(.int ((Int32.ofNat u1) - (Int32.ofNat u2))), (.int (Int32.ofNat (u2 + 2)))] h0 (Q23_12 Z u1 u2 h0 n0) := by
  refine own_enter (Jvm.Free.JP.mathPlain rfl (by decide +kernel)) fun p e s m below meth c s₁ X0 hx hby hml hown hnm hZ e0 hre hlk => ?_
  have N0 := Fr.nil n0
  have pre0 : ∀ t, SF p e below s₁ (mkF m 0 #[iv ((Int32.ofNat u1) - (Int32.ofNat u2)), iv (Int32.ofNat (u2 + 2))] []) t → SF p e below s₁ (entryFrame m #[(.int ((Int32.ofNat u1) - (Int32.ofNat u2))), (.int (Int32.ofNat (u2 + 2)))] 2) t := fun t k => castTop (ef_12 m ((Int32.ofNat u1) - (Int32.ofNat u2)) (Int32.ofNat (u2 + 2))) k
  obtain ⟨fs, hr, hrun, hended, hW, hsame⟩ := X0.leave (v := some (.int (Int32.ofNat (u2 + 2)))) (fun h => by rw [hre] at h; cases h)
  refine ⟨_, _, pre0 _ ?_, hrun, hended, _, _, rfl, ?_, ⟨_, rfl⟩, hW, hsame.mono (by decide) (by decide)⟩
  · show SF p e below s₁ (mkF m 0 #[iv ((Int32.ofNat u1) - (Int32.ofNat u2)), iv (Int32.ofNat (u2 + 2))] []) _
    refine XS.iloadN X0.here hx rfl (hb hby d23_0) rfl ?_
    refine XS.iloadN X0.here hx rfl (hb hby d23_1) rfl ?_
    refine XS.icmpYes X0.here hx rfl (pc0 := 2) (pc' := 9) rfl (hb hby d23_2) rfl (tlt P1).1 (by decide) (by decide) ?_
    refine XS.iloadN X0.here hx rfl (hb hby d23_9) rfl ?_
    exact retI X0 hx hre (hb hby d23_10) hr
  · show Q23_12 Z u1 u2 h0 n0 _ s₁.heap _
    rw [e0]
    exact ⟨rfl, N0, rfl⟩
theorem pd_9 : parseMethodDescriptor "(II)I" = some ⟨[.int, .int], some .int⟩ := by decide +kernel
theorem d22_6 : D22 6 (.iadd) 1 := by decide +kernel
theorem d22_7 : D22 7 (.istore_n 3) 1 := by decide +kernel
theorem d22_8 : D22 8 (.iconst 0) 1 := by decide +kernel
theorem d22_9 : D22 9 (.iload_n 3) 1 := by decide +kernel
theorem d22_10 : D22 10 (.if_icmp .ge 11) 3 := by decide +kernel
theorem d22_13 : D22 13 (.iload_n 3) 1 := by decide +kernel
theorem d22_14 : D22 14 (.ldc 200) 2 := by decide +kernel
theorem d22_16 : D22 16 (.if_icmp .gt 5) 3 := by decide +kernel
theorem d22_19 : D22 19 (.iload_n 3) 1 := by decide +kernel
theorem d22_20 : D22 20 (.ireturn) 1 := by decide +kernel
theorem ef_13 (m : MethodId) (x0 : Int32) (x1 : Int32) (x2 : Int32) : entryFrame m #[(.int x0), (.int x1), (.int x2)] 4 = mkF m 0 #[.val (.int x0), .val (.int x1), .val (.int x2), .unset] [] := by first | (simp [entryFrame, mkF, argsToLocals, Value.category]; done) | rfl
theorem pn_5 : plainName "jdk/internal/util/ArraysSupport" = true := by first | (simp [plainName, overriddenIn]; done) | decide +kernel
def Q22_13 (Z : State) (u1 : Nat) (u2 : Nat) (h0 : Heap) (n0 : Nat) (v : Option Value) (h : Heap) (L : List Loc) : Prop := v = some (.int (Int32.ofNat (u1 + (u1 + 2)))) ∧ Fr n0 L ∧ h = h0
theorem rm22_13 (l : Launch) (Z : State) (a0 : Array Value) (hw : HW Z a0) (ws : List Jvm.Cond) (u1 : Nat) (u2 : Nat) (h0 : Heap) (n0 : Nat) (Z0 : n0 ≤ h0.size) (P1 : ((Int32.ofNat u2) - (Int32.ofNat u1)) < (Int32.ofNat (u1 + 2))) (P2 : (0 : Int32) < (Int32.ofNat (u1 + (u1 + 2)))) (P3 : ¬ ((2147483639 : Int32) < (Int32.ofNat (u1 + (u1 + 2))))) :
    MF l Z mq52 (Jvm.Cond.code mq52 jdk_48_method_27_code 4 (some .int)) ws rq4 #[(.int (Int32.ofNat u1)), (.int ((Int32.ofNat u2) - (Int32.ofNat u1))), (.int (Int32.ofNat (u1 + 2)))] h0 (Q22_13 Z u1 u2 h0 n0) := by
  refine own_enter (plainFor_of_name pn_5) fun p e s m below meth c s₁ X0 hx hby hml hown hnm hZ e0 hre hlk => ?_
  have N0 := Fr.nil n0
  have pre0 : ∀ t, SF p e below s₁ (mkF m 0 #[iv (Int32.ofNat u1), iv ((Int32.ofNat u2) - (Int32.ofNat u1)), iv (Int32.ofNat (u1 + 2)), .unset] []) t → SF p e below s₁ (entryFrame m #[(.int (Int32.ofNat u1)), (.int ((Int32.ofNat u2) - (Int32.ofNat u1))), (.int (Int32.ofNat (u1 + 2)))] 4) t := fun t k => castTop (ef_13 m (Int32.ofNat u1) ((Int32.ofNat u2) - (Int32.ofNat u1)) (Int32.ofNat (u1 + 2))) k
  obtain ⟨_, _, ⟨T1, L1, k1x, n1⟩, -, X1, ⟨Lc1, hQ1, l1, y1, z1⟩, st1⟩ := Jvm.LawKit.callS X0 hx (y := mq14) hown (mvT hZ (tw hw 118 rfl)) (mvT hZ (tw hw 119 rfl)) (mvT hZ (tw hw 120 rfl)) (mvT hZ (tw hw 121 rfl)) (by decide) (backOf (W := 1) (rm23_12 l Z a0 hw [] u2 u1 h0 n0 Z0 P1) hZ (tw hw 121 rfl) (tw hw 120 rfl) (by decide) (by decide)) (g := (mkF m 3 #[iv (Int32.ofNat u1), iv ((Int32.ofNat u2) - (Int32.ofNat u1)), iv (Int32.ofNat (u1 + 2)), .unset] [(.int (Int32.ofNat (u1 + 2))), (.int ((Int32.ofNat u2) - (Int32.ofNat u1))), (.int (Int32.ofNat u1))])) rfl (by rw [hml]; rfl) (argsL := [(.int ((Int32.ofNat u2) - (Int32.ofNat u1))), (.int (Int32.ofNat (u1 + 2)))]) (rest := [(.int (Int32.ofNat u1))]) (lenOf pd_9 rfl) rfl (Nat.le_of_eq rfl) (hb hby d22_3) (fun _ _ => ⟨rfl, e0, (by decide : 0 + 0 ≤ _), (by decide : 0 + 0 ≤ _)⟩)
  dsimp only [Pt.U, Pt.locs, Pt.cells, Pt.slots] at X1 l1 y1 z1 st1 hQ1
  subst l1 y1 z1
  obtain ⟨rfl, N1q, e1⟩ := hQ1
  have N1 := Fr.app N0 N1q
  obtain ⟨fs, hr, hrun, hended, hW, hsame⟩ := X1.leave (v := some (.int (Int32.ofNat (u1 + (u1 + 2))))) (fun h => by rw [hre] at h; cases h)
  refine ⟨_, _, pre0 _ ?_, hrun, hended, _, _, rfl, ?_, ⟨_, rfl⟩, hW, hsame.mono (by decide) (by decide)⟩
  · show SF p e below s₁ (mkF m 0 #[iv (Int32.ofNat u1), iv ((Int32.ofNat u2) - (Int32.ofNat u1)), iv (Int32.ofNat (u1 + 2)), .unset] []) _
    refine XS.iloadN X0.here hx rfl (hb hby d22_0) rfl ?_
    refine XS.iloadN X0.here hx rfl (hb hby d22_1) rfl ?_
    refine XS.iloadN X0.here hx rfl (hb hby d22_2) rfl ?_
    refine st1 _ ?_
    refine XS.iadd X1.here hx rfl (hb hby d22_6) rfl ?_
    show SF p e below T1 (mkF m 7 #[iv (Int32.ofNat u1), iv ((Int32.ofNat u2) - (Int32.ofNat u1)), iv (Int32.ofNat (u1 + 2)), .unset] [(.int ((Int32.ofNat u1) + (Int32.ofNat (u1 + 2))))]) _
    rw [(show ((Int32.ofNat u1) + (Int32.ofNat (u1 + 2))) = (Int32.ofNat (u1 + (u1 + 2))) from own_addk _ _)]
    refine XS.istoreN X1.here hx rfl (hb hby d22_7) rfl (l' := #[iv (Int32.ofNat u1), iv ((Int32.ofNat u2) - (Int32.ofNat u1)), iv (Int32.ofNat (u1 + 2)), iv (Int32.ofNat (u1 + (u1 + 2)))]) rfl ?_
    refine XS.iconst X1.here hx rfl (hb hby d22_8) ?_
    refine XS.iloadN X1.here hx rfl (hb hby d22_9) rfl ?_
    refine XS.icmpNo X1.here hx rfl (hb hby d22_10) rfl (tlt P2).2.1 ?_
    refine XS.iloadN X1.here hx rfl (hb hby d22_13) rfl ?_
    refine X1.ldcInt hx hown (mvT hZ (tw hw 122 rfl)) (g := (mkF m 14 #[iv (Int32.ofNat u1), iv ((Int32.ofNat u2) - (Int32.ofNat u1)), iv (Int32.ofNat (u1 + 2)), iv (Int32.ofNat (u1 + (u1 + 2)))] [(.int (Int32.ofNat (u1 + (u1 + 2))))])) rfl (hb hby d22_14) _ ?_
    refine XS.icmpNo X1.here hx rfl (hb hby d22_16) rfl (flt P3).2.2.1 ?_
    refine XS.iloadN X1.here hx rfl (hb hby d22_19) rfl ?_
    exact retI X1 hx hre (hb hby d22_20) hr
  · show Q22_13 Z u1 u2 h0 n0 _ T1.heap _
    rw [e1]
    exact ⟨rfl, N1, rfl⟩
theorem d21_32 : D21 32 (.istore 5) 2 := by decide +kernel
theorem d21_34 : D21 34 (.iload 5) 2 := by decide +kernel
theorem d21_36 : D21 36 (.ldc 39) 2 := by decide +kernel
theorem d21_38 : D21 38 (.if_icmp .ne 13) 3 := by decide +kernel
theorem d21_51 : D21 51 (.iload 5) 2 := by decide +kernel
theorem d21_53 : D21 53 (.aload_n 0) 1 := by decide +kernel
theorem d21_54 : D21 54 (.getfield 22) 3 := by decide +kernel
theorem d21_57 : D21 57 (.ishr) 1 := by decide +kernel
theorem d21_58 : D21 58 (.ireturn) 1 := by decide +kernel
theorem ef_14 (m : MethodId) (x0 : Addr) (x1 : Int32) : entryFrame m #[(.ref x0), (.int x1)] 6 = mkF m 0 #[.val (.ref x0), .val (.int x1), .unset, .unset, .unset, .unset] [] := by first | (simp [entryFrame, mkF, argsToLocals, Value.category]; done) | rfl
def Q21_14 (Z : State) (u1 : Addr) (u2 : Nat) (u3 : Addr) (u4 : ClassId) (u5 : Nat) (u6 : List Int32) (h0 : Heap) (n0 : Nat) (v : Option Value) (h : Heap) (L : List Loc) : Prop := v = some (.int (Int32.ofNat (u5 + (u5 + 2)))) ∧ Fr n0 L ∧ h = h0
theorem rm21_14 (l : Launch) (Z : State) (a0 : Array Value) (hw : HW Z a0) (ws : List Jvm.Cond) (u1 : Addr) (u2 : Nat) (u3 : Addr) (u4 : ClassId) (u5 : Nat) (u6 : List Int32) (h0 : Heap) (n0 : Nat) (Z0 : n0 ≤ h0.size) (P1 : Fld Z h0 u1 sq2 "value" "[B" (.ref u3)) (P2 : Arv Z h0 u3 u4 .byte (Int32.ofNat u5) (own_lo u6) (.int (0 : Int32))) (P3 : Fld Z h0 u1 sq2 "coder" "B" (.int 0)) (P4 : ((Int32.ofNat u2) - (Int32.ofNat u5)) < (Int32.ofNat (u5 + 2))) (P5 : (0 : Int32) < (Int32.ofNat (u5 + (u5 + 2)))) (P6 : ¬ ((2147483639 : Int32) < (Int32.ofNat (u5 + (u5 + 2))))) (P7 : ¬ ((Int32.ofNat (u5 + (u5 + 2))) = (2147483647 : Int32))) :
    MF l Z mq12 (Jvm.Cond.code mq12 jdk_68_method_10_code 6 (some .int)) ws rq9 #[(.ref u1), (.int (Int32.ofNat u2))] h0 (Q21_14 Z u1 u2 u3 u4 u5 u6 h0 n0) := by
  refine own_enter (plainFor_of_name pn_4) fun p e s m below meth c s₁ X0 hx hby hml hown hnm hZ e0 hre hlk => ?_
  have N0 := Fr.nil n0
  have pre0 : ∀ t, SF p e below s₁ (mkF m 0 #[rv u1, iv (Int32.ofNat u2), .unset, .unset, .unset, .unset] []) t → SF p e below s₁ (entryFrame m #[(.ref u1), (.int (Int32.ofNat u2))] 6) t := fun t k => castTop (ef_14 m u1 (Int32.ofNat u2)) k
  obtain ⟨T1, X1, e1, st1⟩ := getF X0 hx hZ hown (host := "") (Or.inl (tw hw 62 rfl)) Via.refl e0 P1 (g := (mkF m 1 #[rv u1, iv (Int32.ofNat u2), .unset, .unset, .unset, .unset] [(.ref u1)])) rfl rfl (hb hby d21_1)
  obtain ⟨cl2, Ar2, q2, S2, N2z, H2, G2⟩ := id P2
  obtain ⟨T3, X3, e3, st3⟩ := getF X1 hx hZ hown (host := "") (Or.inl (tw hw 64 rfl)) Via.refl e1 P3 (g := (mkF m 8 #[rv u1, iv (Int32.ofNat u2), iv (Int32.ofNat u5), .unset, .unset, .unset] [(.ref u1), (.int (Int32.ofNat u2))])) rfl rfl (hb hby d21_8)
  obtain ⟨T4, X4, e4, st4⟩ := getF X3 hx hZ hown (host := "") (Or.inl (tw hw 64 rfl)) Via.refl e3 P3 (g := (mkF m 24 #[rv u1, iv (Int32.ofNat u2), iv (Int32.ofNat u5), iv (Int32.ofNat u2), iv ((Int32.ofNat u2) - (Int32.ofNat u5)), .unset] [(.ref u1), (.int 2), (.int (Int32.ofNat u5)), (.int ((Int32.ofNat u2) - (Int32.ofNat u5))), (.int (Int32.ofNat u5))])) rfl rfl (hb hby d21_24)
  obtain ⟨_, _, ⟨T5, L5, k5x, n5⟩, -, X5, ⟨Lc5, hQ5, l5, y5, z5⟩, st5⟩ := Jvm.LawKit.callS X4 hx (y := mq52) hown (mvT hZ (tw hw 114 rfl)) (mvT hZ (tw hw 115 rfl)) (mvT hZ (tw hw 116 rfl)) (mvT hZ (tw hw 117 rfl)) (by decide) (backOf (W := 0) (rm22_13 l Z a0 hw [] u5 u2 h0 n0 Z0 P4 P5 P6) hZ (tw hw 117 rfl) (tw hw 116 rfl) (by decide) (by decide)) (g := (mkF m 29 #[rv u1, iv (Int32.ofNat u2), iv (Int32.ofNat u5), iv (Int32.ofNat u2), iv ((Int32.ofNat u2) - (Int32.ofNat u5)), .unset] [(.int (Int32.ofNat (u5 + 2))), (.int ((Int32.ofNat u2) - (Int32.ofNat u5))), (.int (Int32.ofNat u5))])) rfl (by rw [hml]; rfl) (argsL := [(.int (Int32.ofNat u5)), (.int ((Int32.ofNat u2) - (Int32.ofNat u5))), (.int (Int32.ofNat (u5 + 2)))]) (rest := []) (lenOf pd_3 rfl) rfl (Nat.le_of_eq rfl) (hb hby d21_29) (fun _ _ => ⟨rfl, e4, (by decide : 0 + 0 ≤ _), (by decide : 0 + 0 ≤ _)⟩)
  dsimp only [Pt.U, Pt.locs, Pt.cells, Pt.slots] at X5 l5 y5 z5 st5 hQ5
  subst l5 y5 z5
  obtain ⟨rfl, N5q, e5⟩ := hQ5
  have N5 := Fr.app N0 N5q
  obtain ⟨T6, X6, e6, st6⟩ := getF X5 hx hZ hown (host := "") (Or.inl (tw hw 64 rfl)) Via.refl e5 P3 (g := (mkF m 54 #[rv u1, iv (Int32.ofNat u2), iv (Int32.ofNat u5), iv (Int32.ofNat u2), iv ((Int32.ofNat u2) - (Int32.ofNat u5)), iv (Int32.ofNat (u5 + (u5 + 2)))] [(.ref u1), (.int (Int32.ofNat (u5 + (u5 + 2))))])) rfl rfl (hb hby d21_54)
  obtain ⟨fs, hr, hrun, hended, hW, hsame⟩ := X6.leave (v := some (.int (Int32.ofNat (u5 + (u5 + 2))))) (fun h => by rw [hre] at h; cases h)
  refine ⟨_, _, pre0 _ ?_, hrun, hended, _, _, rfl, ?_, ⟨_, rfl⟩, hW, hsame.mono (by decide) (by decide)⟩
  · show SF p e below s₁ (mkF m 0 #[rv u1, iv (Int32.ofNat u2), .unset, .unset, .unset, .unset] []) _
    refine XS.aloadN X0.here hx rfl (hb hby d21_0) rfl rfl ?_
    refine st1 _ ?_
    refine X1.arraylength hx (by rw [e1]; exact Ar2.1) (State.isArrayOf_alike hZ.alike Ar2.2.1) (g := (mkF m 4 #[rv u1, iv (Int32.ofNat u2), .unset, .unset, .unset, .unset] [(.ref u3)])) rfl rfl (hb hby d21_4) _ ?_
    rw [len_of S2 N2z]
    refine XS.istoreN X1.here hx rfl (hb hby d21_5) rfl (l' := #[rv u1, iv (Int32.ofNat u2), iv (Int32.ofNat u5), .unset, .unset, .unset]) rfl ?_
    refine XS.iloadN X1.here hx rfl (hb hby d21_6) rfl ?_
    refine XS.aloadN X1.here hx rfl (hb hby d21_7) rfl rfl ?_
    refine st3 _ ?_
    refine XS.ishl X3.here hx rfl (hb hby d21_11) rfl ?_
    show SF p e below T3 (mkF m 12 #[rv u1, iv (Int32.ofNat u2), iv (Int32.ofNat u5), .unset, .unset, .unset] [(.int ((Int32.ofNat u2) <<< ((0 : Int32) &&& 31)))]) _
    rw [(show ((Int32.ofNat u2) <<< ((0 : Int32) &&& 31)) = (Int32.ofNat u2) from own_shl0 _)]
    refine XS.istoreN X3.here hx rfl (hb hby d21_12) rfl (l' := #[rv u1, iv (Int32.ofNat u2), iv (Int32.ofNat u5), iv (Int32.ofNat u2), .unset, .unset]) rfl ?_
    refine XS.iloadN X3.here hx rfl (hb hby d21_13) rfl ?_
    refine XS.iloadN X3.here hx rfl (hb hby d21_14) rfl ?_
    refine XS.isub X3.here hx rfl (hb hby d21_15) rfl ?_
    refine XS.istore X3.here hx rfl (hb hby d21_16) rfl (l' := #[rv u1, iv (Int32.ofNat u2), iv (Int32.ofNat u5), iv (Int32.ofNat u2), iv ((Int32.ofNat u2) - (Int32.ofNat u5)), .unset]) rfl ?_
    refine XS.iloadN X3.here hx rfl (hb hby d21_18) rfl ?_
    refine XS.iload X3.here hx rfl (hb hby d21_19) rfl ?_
    refine XS.iloadN X3.here hx rfl (hb hby d21_21) rfl ?_
    refine XS.iconst X3.here hx rfl (hb hby d21_22) ?_
    refine XS.aloadN X3.here hx rfl (hb hby d21_23) rfl rfl ?_
    refine st4 _ ?_
    refine XS.ishl X4.here hx rfl (hb hby d21_27) rfl ?_
    show SF p e below T4 (mkF m 28 #[rv u1, iv (Int32.ofNat u2), iv (Int32.ofNat u5), iv (Int32.ofNat u2), iv ((Int32.ofNat u2) - (Int32.ofNat u5)), .unset] [(.int ((2 : Int32) <<< ((0 : Int32) &&& 31))), (.int (Int32.ofNat u5)), (.int ((Int32.ofNat u2) - (Int32.ofNat u5))), (.int (Int32.ofNat u5))]) _
    rw [show ((2 : Int32) <<< ((0 : Int32) &&& 31)) = (2 : Int32) from by decide]
    refine XS.iadd X4.here hx rfl (hb hby d21_28) rfl ?_
    show SF p e below T4 (mkF m 29 #[rv u1, iv (Int32.ofNat u2), iv (Int32.ofNat u5), iv (Int32.ofNat u2), iv ((Int32.ofNat u2) - (Int32.ofNat u5)), .unset] [(.int ((Int32.ofNat u5) + (2 : Int32))), (.int ((Int32.ofNat u2) - (Int32.ofNat u5))), (.int (Int32.ofNat u5))]) _
    rw [(show ((Int32.ofNat u5) + (2 : Int32)) = (Int32.ofNat (u5 + 2)) from own_addk _ 2)]
    refine st5 _ ?_
    refine XS.istore X5.here hx rfl (hb hby d21_32) rfl (l' := #[rv u1, iv (Int32.ofNat u2), iv (Int32.ofNat u5), iv (Int32.ofNat u2), iv ((Int32.ofNat u2) - (Int32.ofNat u5)), iv (Int32.ofNat (u5 + (u5 + 2)))]) rfl ?_
    refine XS.iload X5.here hx rfl (hb hby d21_34) rfl ?_
    refine X5.ldcInt hx hown (mvT hZ (tw hw 123 rfl)) (g := (mkF m 36 #[rv u1, iv (Int32.ofNat u2), iv (Int32.ofNat u5), iv (Int32.ofNat u2), iv ((Int32.ofNat u2) - (Int32.ofNat u5)), iv (Int32.ofNat (u5 + (u5 + 2)))] [(.int (Int32.ofNat (u5 + (u5 + 2))))])) rfl (hb hby d21_36) _ ?_
    refine XS.icmpYes X5.here hx rfl (pc0 := 38) (pc' := 51) rfl (hb hby d21_38) rfl (feq P7).2 (by decide) (by decide) ?_
    refine XS.iload X5.here hx rfl (hb hby d21_51) rfl ?_
    refine XS.aloadN X5.here hx rfl (hb hby d21_53) rfl rfl ?_
    refine st6 _ ?_
    refine XS.ishr X6.here hx rfl (hb hby d21_57) rfl ?_
    show SF p e below T6 (mkF m 58 #[rv u1, iv (Int32.ofNat u2), iv (Int32.ofNat u5), iv (Int32.ofNat u2), iv ((Int32.ofNat u2) - (Int32.ofNat u5)), iv (Int32.ofNat (u5 + (u5 + 2)))] [(.int ((Int32.ofNat (u5 + (u5 + 2))) >>> ((0 : Int32) &&& 31)))]) _
    rw [(show ((Int32.ofNat (u5 + (u5 + 2))) >>> ((0 : Int32) &&& 31)) = (Int32.ofNat (u5 + (u5 + 2))) from StrChars.shr0 _)]
    exact retI X6 hx hre (hb hby d21_58) hr
  · show Q21_14 Z u1 u2 u3 u4 u5 u6 h0 n0 _ T6.heap _
    rw [e6]
    exact ⟨rfl, N5, rfl⟩
theorem d20_27 : D20 27 (.aload_n 0) 1 := by decide +kernel
theorem d20_28 : D20 28 (.getfield 22) 3 := by decide +kernel
theorem d20_31 : D20 31 (.ishl) 1 := by decide +kernel
theorem d20_32 : D20 32 (.invokestatic 108) 3 := by decide +kernel
abbrev D24 (n : Nat) (i : Instr) (k : Nat) : Prop := decode jdk_65_method_121_code n = .ok (i, k)
theorem d24_0 : D24 0 (.iload_n 1) 1 := by decide +kernel
theorem d24_1 : D24 1 (.aload_n 0) 1 := by decide +kernel
theorem d24_2 : D24 2 (.arraylength) 1 := by decide +kernel
theorem d24_3 : D24 3 (.if_icmp .ne 11) 3 := by decide +kernel
theorem d24_14 : D24 14 (.iload_n 1) 1 := by decide +kernel
theorem d24_15 : D24 15 (.newarray .byte) 2 := by decide +kernel
theorem d24_17 : D24 17 (.astore_n 2) 1 := by decide +kernel
theorem d24_18 : D24 18 (.aload_n 0) 1 := by decide +kernel
theorem d24_19 : D24 19 (.iconst 0) 1 := by decide +kernel
theorem d24_20 : D24 20 (.aload_n 2) 1 := by decide +kernel
theorem d24_21 : D24 21 (.iconst 0) 1 := by decide +kernel
theorem d24_22 : D24 22 (.aload_n 0) 1 := by decide +kernel
theorem d24_23 : D24 23 (.arraylength) 1 := by decide +kernel
theorem d24_24 : D24 24 (.iload_n 1) 1 := by decide +kernel
theorem d24_25 : D24 25 (.invokestatic 304) 3 := by decide +kernel
abbrev D25 (n : Nat) (i : Instr) (k : Nat) : Prop := decode jdk_29_method_69_code n = .ok (i, k)
theorem d25_0 : D25 0 (.iload_n 0) 1 := by decide +kernel
theorem d25_1 : D25 1 (.iload_n 1) 1 := by decide +kernel
theorem d25_2 : D25 2 (.if_icmp .gt 7) 3 := by decide +kernel
theorem d25_5 : D25 5 (.iload_n 0) 1 := by decide +kernel
theorem d25_6 : D25 6 (.goto 4) 3 := by decide +kernel
theorem d25_10 : D25 10 (.ireturn) 1 := by decide +kernel
theorem ef_15 (m : MethodId) (x0 : Int32) (x1 : Int32) : entryFrame m #[(.int x0), (.int x1)] 2 = mkF m 0 #[.val (.int x0), .val (.int x1)] [] := by first | (simp [entryFrame, mkF, argsToLocals, Value.category]; done) | rfl
def Q25_15 (Z : State) (u1 : Nat) (h0 : Heap) (n0 : Nat) (v : Option Value) (h : Heap) (L : List Loc) : Prop := v = some (.int (Int32.ofNat u1)) ∧ Fr n0 L ∧ h = h0
theorem rm25_15 (l : Launch) (Z : State) (a0 : Array Value) (hw : HW Z a0) (ws : List Jvm.Cond) (u1 : Nat) (h0 : Heap) (n0 : Nat) (Z0 : n0 ≤ h0.size) (P1 : ¬ ((Int32.ofNat (u1 + (u1 + 2))) < (Int32.ofNat u1))) :
    MF l Z mq15 (Jvm.Cond.code mq15 jdk_29_method_69_code 2 (some .int)) ws rq0 #[(.int (Int32.ofNat u1)), (.int (Int32.ofNat (u1 + (u1 + 2))))] h0 (Q25_15 Z u1 h0 n0) := by
  refine own_enter (Jvm.Free.JP.mathPlain rfl (by decide +kernel)) fun p e s m below meth c s₁ X0 hx hby hml hown hnm hZ e0 hre hlk => ?_
  have N0 := Fr.nil n0
  have pre0 : ∀ t, SF p e below s₁ (mkF m 0 #[iv (Int32.ofNat u1), iv (Int32.ofNat (u1 + (u1 + 2)))] []) t → SF p e below s₁ (entryFrame m #[(.int (Int32.ofNat u1)), (.int (Int32.ofNat (u1 + (u1 + 2))))] 2) t := fun t k => castTop (ef_15 m (Int32.ofNat u1) (Int32.ofNat (u1 + (u1 + 2)))) k
  obtain ⟨fs, hr, hrun, hended, hW, hsame⟩ := X0.leave (v := some (.int (Int32.ofNat u1))) (fun h => by rw [hre] at h; cases h)
  refine ⟨_, _, pre0 _ ?_, hrun, hended, _, _, rfl, ?_, ⟨_, rfl⟩, hW, hsame.mono (by decide) (by decide)⟩
  · show SF p e below s₁ (mkF m 0 #[iv (Int32.ofNat u1), iv (Int32.ofNat (u1 + (u1 + 2)))] []) _
    refine XS.iloadN X0.here hx rfl (hb hby d25_0) rfl ?_
    refine XS.iloadN X0.here hx rfl (hb hby d25_1) rfl ?_
    refine XS.icmpNo X0.here hx rfl (hb hby d25_2) rfl (flt P1).2.2.1 ?_
    refine XS.iloadN X0.here hx rfl (hb hby d25_5) rfl ?_
    refine XS.goto X0.here hx rfl (pc0 := 6) (pc' := 10) rfl (hb hby d25_6) (by decide) (by decide) ?_
    exact retI X0 hx hre (hb hby d25_10) hr
  · show Q25_15 Z u1 h0 n0 _ s₁.heap _
    rw [e0]
    exact ⟨rfl, N0, rfl⟩
theorem d24_28 : D24 28 (.invokestatic 150) 3 := by decide +kernel
theorem d24_31 : D24 31 (.aload_n 2) 1 := by decide +kernel
theorem d24_32 : D24 32 (.areturn) 1 := by decide +kernel
theorem ef_16 (m : MethodId) (x0 : Addr) (x1 : Int32) : entryFrame m #[(.ref x0), (.int x1)] 3 = mkF m 0 #[.val (.ref x0), .val (.int x1), .unset] [] := by first | (simp [entryFrame, mkF, argsToLocals, Value.category]; done) | rfl
theorem pn_6 : plainName "java/util/Arrays" = true := by first | (simp [plainName, overriddenIn]; done) | decide +kernel
def Q24_16 (Z : State) (u1 : Addr) (u2 : Nat) (u3 : ClassId) (u4 : List Int32) (h0 : Heap) (n0 : Nat) (v : Option Value) (h : Heap) (L : List Loc) : Prop := ∃ e1x : Addr, ∃ e2x : ClassId, h0.size ≤ e1x ∧ v = some (.ref e1x) ∧ Fr n0 L ∧ Keep h0 h [] ∧ Arv Z h e1x e2x .byte (Int32.ofNat (u2 + (u2 + 2))) (own_lo u4) (.int (0 : Int32)) ∧ Exa Z h e1x "[B"
theorem rm24_16 (l : Launch) (Z : State) (a0 : Array Value) (hw : HW Z a0) (ws : List Jvm.Cond) (u1 : Addr) (u2 : Nat) (u3 : ClassId) (u4 : List Int32) (h0 : Heap) (n0 : Nat) (Z0 : n0 ≤ h0.size) (P1 : Arv Z h0 u1 u3 .byte (Int32.ofNat u2) (own_lo u4) (.int (0 : Int32))) (P2 : ¬ ((Int32.ofNat (u2 + (u2 + 2))) = (Int32.ofNat u2))) (P3 : ¬ (Int32.ofNat (u2 + (u2 + 2))) < 0) (P4 : ((Int32.ofNat (u2 + (u2 + 2)))).toNatClampNeg ≤ 24) (P5 : ¬ ((Int32.ofNat (u2 + (u2 + 2))) < (Int32.ofNat u2))) (P6 : ((0 : Int32)).toNatClampNeg = ([] : List Value).length ∧ ¬ (0 : Int32) < 0) (P7 : ¬ (Int32.ofNat u2) < 0 ∧ (own_lo u4).length ≤ ((Int32.ofNat u2)).toNatClampNeg ∧ ((Int32.ofNat u2)).toNatClampNeg ≤ ((Int32.ofNat u2)).toNatClampNeg ∧ ([] : List Value).length + ((Int32.ofNat u2)).toNatClampNeg ≤ ((Int32.ofNat (u2 + (u2 + 2)))).toNatClampNeg) :
    MF l Z mq49 (Jvm.Cond.code mq49 jdk_65_method_121_code 3 (some (.array .byte))) ws rq6 #[(.ref u1), (.int (Int32.ofNat (u2 + (u2 + 2))))] h0 (Q24_16 Z u1 u2 u3 u4 h0 n0) := by
  refine own_enter (plainFor_of_name pn_6) fun p e s m below meth c s₁ X0 hx hby hml hown hnm hZ e0 hre hlk => ?_
  have N0 := Fr.nil n0
  have pre0 : ∀ t, SF p e below s₁ (mkF m 0 #[rv u1, iv (Int32.ofNat (u2 + (u2 + 2))), .unset] []) t → SF p e below s₁ (entryFrame m #[(.ref u1), (.int (Int32.ofNat (u2 + (u2 + 2))))] 3) t := fun t k => castTop (ef_16 m u1 (Int32.ofNat (u2 + (u2 + 2)))) k
  obtain ⟨cl1, Ar1, q1, S1, N1z, H1, G1⟩ := id P1
  obtain ⟨T2, h2, e2x, X2, e2, E2, A2, Ex2, st2⟩ := newPE X0 hx hZ (tw hw 23 rfl) e0 (g := (mkF m 15 #[rv u1, iv (Int32.ofNat (u2 + (u2 + 2))), .unset] [(.int (Int32.ofNat (u2 + (u2 + 2))))])) rfl (hb hby d24_15) rfl P3 (cap := 24) P4 (by decide) (by decide) (by decide) (ad := "[B") rfl
  obtain ⟨e1x, g2⟩ : ∃ z, z = h0.size := ⟨_, rfl⟩
  rw [← g2] at A2 st2 Ex2
  have K2 : Keep h0 h2 [] := (Keep.refl h0 []).ext E2
  have V2 : Arv Z h2 e1x e2x .byte (Int32.ofNat (u2 + (u2 + 2))) [] (.int (0 : Int32)) := Arv.new A2 P3
  have F1_3 : Arv Z h2 u1 u3 .byte (Int32.ofNat u2) (own_lo u4) (.int (0 : Int32)) := P1.ext E2
  obtain ⟨cl4, Ar4, q4, S4, N4z, H4, G4⟩ := id F1_3
  have Z2 : n0 ≤ h2.size := Nat.le_trans Z0 E2.1
  obtain ⟨_, _, ⟨T5, L5, k5x, n5⟩, -, X5, ⟨Lc5, hQ5, l5, y5, z5⟩, st5⟩ := Jvm.LawKit.callS X2 hx (y := mq15) hown (mvT hZ (tw hw 128 rfl)) (mvT hZ (tw hw 129 rfl)) (mvT hZ (tw hw 120 rfl)) (mvT hZ (tw hw 130 rfl)) (by decide) (backOf (W := 4) (rm25_15 l Z a0 hw [] u2 h2 n0 Z2 P5) hZ (tw hw 130 rfl) (tw hw 120 rfl) (by decide) (by decide)) (g := (mkF m 25 #[rv u1, iv (Int32.ofNat (u2 + (u2 + 2))), rv e1x] [(.int (Int32.ofNat (u2 + (u2 + 2)))), (.int (Int32.ofNat u2)), (.int 0), (.ref e1x), (.int 0), (.ref u1)])) rfl (by rw [hml]; rfl) (argsL := [(.int (Int32.ofNat u2)), (.int (Int32.ofNat (u2 + (u2 + 2))))]) (rest := [(.int 0), (.ref e1x), (.int 0), (.ref u1)]) (lenOf pd_9 rfl) rfl (Nat.le_of_eq rfl) (hb hby d24_25) (fun _ _ => ⟨rfl, e2, (by decide : 1 + 0 ≤ _), (by decide : 24 + 0 ≤ _)⟩)
  dsimp only [Pt.U, Pt.locs, Pt.cells, Pt.slots] at X5 l5 y5 z5 st5 hQ5
  subst l5 y5 z5
  obtain ⟨rfl, N5q, e5⟩ := hQ5
  have N5 := Fr.app N0 N5q
  have g_b6 : n0 ≤ e1x := Nat.le_trans Z0 (Nat.le_of_eq g2.symm)
  obtain ⟨T6, h6, Lc6, X6, e6, K6c, N6, V6, st6⟩ := own_acopy X5 hx hZ hown (tw hw 131 rfl) (tw hw 134 rfl) (tw hw 132 rfl) (tw hw 133 rfl) e5 F1_3 V2 (by decide) P6 P7 (g := (mkF m 28 #[rv u1, iv (Int32.ofNat (u2 + (u2 + 2))), rv e1x] [(.int (Int32.ofNat u2)), (.int 0), (.ref e1x), (.int 0), (.ref u1)])) rfl (by rw [hml]; rfl) rfl (hb hby d24_28) (W := 0) (Nat.le_of_eq rfl) (by decide) (by decide) g_b6 N5
  have sz0_b6 : h0.size ≤ e1x := Nat.le_trans (Keep.refl h0 []).1 (Nat.le_of_eq g2.symm)
  have K6 : Keep h0 h6 [] := K2.trans K6c (allS (Or.inr sz0_b6) all0)
  have F2_7 : Exa Z h6 e1x "[B" := Ex2.keep K6c
  obtain ⟨fs, hr, hrun, hended, hW, hsame⟩ := X6.leave (v := some (.ref e1x)) (fun h => by rw [hre] at h; cases h)
  refine ⟨_, _, pre0 _ ?_, hrun, hended, _, _, rfl, ?_, ⟨_, rfl⟩, hW, hsame.mono (by decide) (by decide)⟩
  · show SF p e below s₁ (mkF m 0 #[rv u1, iv (Int32.ofNat (u2 + (u2 + 2))), .unset] []) _
    refine XS.iloadN X0.here hx rfl (hb hby d24_0) rfl ?_
    refine XS.aloadN X0.here hx rfl (hb hby d24_1) rfl rfl ?_
    refine X0.arraylength hx (by rw [e0]; exact Ar1.1) (State.isArrayOf_alike hZ.alike Ar1.2.1) (g := (mkF m 2 #[rv u1, iv (Int32.ofNat (u2 + (u2 + 2))), .unset] [(.ref u1), (.int (Int32.ofNat (u2 + (u2 + 2))))])) rfl rfl (hb hby d24_2) _ ?_
    rw [len_of S1 N1z]
    refine XS.icmpYes X0.here hx rfl (pc0 := 3) (pc' := 14) rfl (hb hby d24_3) rfl (feq P2).2 (by decide) (by decide) ?_
    refine XS.iloadN X0.here hx rfl (hb hby d24_14) rfl ?_
    refine st2 _ ?_
    refine XS.astoreN X2.here hx rfl (hb hby d24_17) rfl rfl (l' := #[rv u1, iv (Int32.ofNat (u2 + (u2 + 2))), rv e1x]) rfl ?_
    refine XS.aloadN X2.here hx rfl (hb hby d24_18) rfl rfl ?_
    refine XS.iconst X2.here hx rfl (hb hby d24_19) ?_
    refine XS.aloadN X2.here hx rfl (hb hby d24_20) rfl rfl ?_
    refine XS.iconst X2.here hx rfl (hb hby d24_21) ?_
    refine XS.aloadN X2.here hx rfl (hb hby d24_22) rfl rfl ?_
    refine X2.arraylength hx (by rw [e2]; exact Ar4.1) (State.isArrayOf_alike hZ.alike Ar4.2.1) (g := (mkF m 23 #[rv u1, iv (Int32.ofNat (u2 + (u2 + 2))), rv e1x] [(.ref u1), (.int 0), (.ref e1x), (.int 0), (.ref u1)])) rfl rfl (hb hby d24_23) _ ?_
    rw [len_of S4 N4z]
    refine XS.iloadN X2.here hx rfl (hb hby d24_24) rfl ?_
    refine st5 _ ?_
    refine st6 _ ?_
    refine XS.aloadN X6.here hx rfl (hb hby d24_31) rfl rfl ?_
    exact own_retR X6 hx hre rfl rfl (hb hby d24_32) hr
  · show Q24_16 Z u1 u2 u3 u4 h0 n0 _ T6.heap _
    rw [e6]
    exact ⟨e1x, e2x, sz0_b6, rfl, N6, K6, V6, F2_7⟩
theorem pd_10 : parseMethodDescriptor "([BI)[B" = some ⟨[(.array .byte), .int], some (.array .byte)⟩ := by decide +kernel
theorem d20_35 : D20 35 (.putfield 15) 3 := by decide +kernel
def Q20_17 (Z : State) (u1 : Addr) (u2 : Nat) (u3 : Addr) (u4 : ClassId) (u5 : Nat) (u6 : List Int32) (h0 : Heap) (n0 : Nat) (v : Option Value) (h : Heap) (L : List Loc) : Prop := ∃ e1x : Addr, ∃ e2x : ClassId, h0.size ≤ e1x ∧ v = none ∧ Fr n0 L ∧ Keep h0 h [u1] ∧ Fld Z h u1 sq2 "value" "[B" (.ref e1x) ∧ Fld Z h u1 sq2 "coder" "B" (.int 0) ∧ Exa Z h u1 sq4 ∧ Fld Z h u1 sq2 "count" "I" (.int (Int32.ofNat u6.length)) ∧ Fld Z h u1 sq2 "maybeLatin1" "Z" (.int 0) ∧ Arv Z h e1x e2x .byte (Int32.ofNat (u5 + (u5 + 2))) (own_lo u6) (.int (0 : Int32)) ∧ Exa Z h e1x "[B"
theorem rm20_17 (l : Launch) (Z : State) (a0 : Array Value) (hw : HW Z a0) (ws : List Jvm.Cond) (u1 : Addr) (u2 : Nat) (u3 : Addr) (u4 : ClassId) (u5 : Nat) (u6 : List Int32) (h0 : Heap) (n0 : Nat) (Z0 : n0 ≤ h0.size) (P1 : Fld Z h0 u1 sq2 "value" "[B" (.ref u3)) (P2 : Arv Z h0 u3 u4 .byte (Int32.ofNat u5) (own_lo u6) (.int (0 : Int32))) (P3 : Fld Z h0 u1 sq2 "coder" "B" (.int 0)) (P4 : (0 : Int32) < ((Int32.ofNat u2) - (Int32.ofNat u5))) (P5 : Exa Z h0 u1 sq4) (P6 : ((Int32.ofNat u2) - (Int32.ofNat u5)) < (Int32.ofNat (u5 + 2))) (P7 : (0 : Int32) < (Int32.ofNat (u5 + (u5 + 2)))) (P8 : ¬ ((2147483639 : Int32) < (Int32.ofNat (u5 + (u5 + 2))))) (P9 : ¬ ((Int32.ofNat (u5 + (u5 + 2))) = (2147483647 : Int32))) (P10 : ¬ ((Int32.ofNat (u5 + (u5 + 2))) = (Int32.ofNat u5))) (P11 : ¬ (Int32.ofNat (u5 + (u5 + 2))) < 0) (P12 : ((Int32.ofNat (u5 + (u5 + 2)))).toNatClampNeg ≤ 24) (P13 : ¬ ((Int32.ofNat (u5 + (u5 + 2))) < (Int32.ofNat u5))) (P14 : ((0 : Int32)).toNatClampNeg = ([] : List Value).length ∧ ¬ (0 : Int32) < 0) (P15 : ¬ (Int32.ofNat u5) < 0 ∧ (own_lo u6).length ≤ ((Int32.ofNat u5)).toNatClampNeg ∧ ((Int32.ofNat u5)).toNatClampNeg ≤ ((Int32.ofNat u5)).toNatClampNeg ∧ ([] : List Value).length + ((Int32.ofNat u5)).toNatClampNeg ≤ ((Int32.ofNat (u5 + (u5 + 2)))).toNatClampNeg) (P16 : Fld Z h0 u1 sq2 "count" "I" (.int (Int32.ofNat u6.length))) (P17 : Fld Z h0 u1 sq2 "maybeLatin1" "Z" (.int 0)) (P18 : n0 ≤ u1) (P19 : u1 < h0.size) :
    MF l Z mq6 (Jvm.Cond.code mq6 jdk_68_method_9_code 3 none) ws rq18 #[(.ref u1), (.int (Int32.ofNat u2))] h0 (Q20_17 Z u1 u2 u3 u4 u5 u6 h0 n0) := by
  refine own_enter (plainFor_of_name pn_4) fun p e s m below meth c s₁ X0 hx hby hml hown hnm hZ e0 hre hlk => ?_
  have N0 := Fr.nil n0
  have pre0 : ∀ t, SF p e below s₁ (mkF m 0 #[rv u1, iv (Int32.ofNat u2), .unset] []) t → SF p e below s₁ (entryFrame m #[(.ref u1), (.int (Int32.ofNat u2))] 3) t := fun t k => castTop (ef_11 m u1 (Int32.ofNat u2)) k
  obtain ⟨T1, X1, e1, st1⟩ := getF X0 hx hZ hown (host := "") (Or.inl (tw hw 62 rfl)) Via.refl e0 P1 (g := (mkF m 1 #[rv u1, iv (Int32.ofNat u2), .unset] [(.ref u1)])) rfl rfl (hb hby d20_1)
  obtain ⟨cl2, Ar2, q2, S2, N2z, H2, G2⟩ := id P2
  obtain ⟨T3, X3, e3, st3⟩ := getF X1 hx hZ hown (host := "") (Or.inl (tw hw 64 rfl)) Via.refl e1 P3 (g := (mkF m 6 #[rv u1, iv (Int32.ofNat u2), .unset] [(.ref u1), (.int (Int32.ofNat u5))])) rfl rfl (hb hby d20_6)
  obtain ⟨T4, X4, e4, st4⟩ := getF X3 hx hZ hown (host := "") (Or.inl (tw hw 62 rfl)) Via.refl e3 P1 (g := (mkF m 19 #[rv u1, iv (Int32.ofNat u2), iv (Int32.ofNat u5)] [(.ref u1), (.ref u1)])) rfl rfl (hb hby d20_19)
  obtain ⟨cq5, q5, q5'⟩ := P5.cell
  obtain ⟨_, _, ⟨T5, L5, k5x, n5⟩, -, X5, ⟨Lc5, hQ5, l5, y5, z5⟩, st5⟩ := X4.privateBack hx (y := mq12) hown (mvT hZ (tw hw 109 rfl)) (mvT hZ (tw hw 110 rfl)) (own_selR hZ (tw hw 112 rfl) (tw hw 111 rfl) (tw hw 110 rfl) (by decide)) (Cond.privateMethod_at (mvP hZ (tw hw 111 rfl) (args := #[]))) (mvT hZ (tw hw 113 rfl)) (by decide) (backOf (W := 2) (rm21_14 l Z a0 hw [] u1 u2 u3 u4 u5 u6 h0 n0 Z0 P1 P2 P3 P6 P7 P8 P9) hZ (tw hw 113 rfl) (tw hw 58 rfl) (by decide) (by decide)) (g := (mkF m 24 #[rv u1, iv (Int32.ofNat u2), iv (Int32.ofNat u5)] [(.int (Int32.ofNat u2)), (.ref u1), (.ref u3), (.ref u1)])) rfl (by rw [hml]; rfl) (Steps.refl _) (a := u1) (by rw [e4]; exact q5) q5' (argsL := [(.int (Int32.ofNat u2))]) (rest := [(.ref u3), (.ref u1)]) (lenOf pd_7 rfl) rfl (Nat.le_of_eq rfl) (hb hby d20_24) (fun _ _ => ⟨rfl, e4, (by decide : 0 + 0 ≤ _), (by decide : 0 + 0 ≤ _)⟩)
  dsimp only [Pt.U, Pt.locs, Pt.cells, Pt.slots] at X5 l5 y5 z5 st5 hQ5
  subst l5 y5 z5
  obtain ⟨rfl, N5q, e5⟩ := hQ5
  have N5 := Fr.app N0 N5q
  obtain ⟨T6, X6, e6, st6⟩ := getF X5 hx hZ hown (host := "") (Or.inl (tw hw 64 rfl)) Via.refl e5 P3 (g := (mkF m 28 #[rv u1, iv (Int32.ofNat u2), iv (Int32.ofNat u5)] [(.ref u1), (.int (Int32.ofNat (u5 + (u5 + 2)))), (.ref u3), (.ref u1)])) rfl rfl (hb hby d20_28)
  obtain ⟨_, _, ⟨T7, L7, k7x, n7⟩, -, X7, ⟨Lc7, hQ7, l7, y7, z7⟩, st7⟩ := Jvm.LawKit.callS X6 hx (y := mq49) hown (mvT hZ (tw hw 124 rfl)) (mvT hZ (tw hw 125 rfl)) (mvT hZ (tw hw 126 rfl)) (mvT hZ (tw hw 127 rfl)) (by decide) (backOf (W := 1) (rm24_16 l Z a0 hw [] u3 u5 u4 u6 h0 n0 Z0 P2 P10 P11 P12 P13 P14 P15) hZ (tw hw 127 rfl) (tw hw 126 rfl) (by decide) (by decide)) (g := (mkF m 32 #[rv u1, iv (Int32.ofNat u2), iv (Int32.ofNat u5)] [(.int (Int32.ofNat (u5 + (u5 + 2)))), (.ref u3), (.ref u1)])) rfl (by rw [hml]; rfl) (argsL := [(.ref u3), (.int (Int32.ofNat (u5 + (u5 + 2))))]) (rest := [(.ref u1)]) (lenOf pd_10 rfl) rfl (Nat.le_of_eq rfl) (hb hby d20_32) (fun _ _ => ⟨rfl, e6, (by decide : 0 + 1 ≤ _), (by decide : 0 + 24 ≤ _)⟩)
  dsimp only [Pt.U, Pt.locs, Pt.cells, Pt.slots] at X7 l7 y7 z7 st7 hQ7
  subst l7 y7 z7
  obtain ⟨e1x, e2x, bz_b7, rfl, N7q, K7c, Fq7_0, Fq7_1⟩ := hQ7
  have K7 : Keep h0 T7.heap [u1] := (Keep.refl h0 [u1]).trans K7c all0
  have N7 := Fr.app N5 N7q
  have F1_8 : Fld Z T7.heap u1 sq2 "count" "I" (.int (Int32.ofNat u6.length)) := P16.keep K7c nin0
  have F1_9 : Fld Z T7.heap u1 sq2 "maybeLatin1" "Z" (.int 0) := P17.keep K7c nin0
  have F1_10 : Exa Z T7.heap u1 sq4 := P5.keep K7c
  have F1_11 : Fld Z T7.heap u1 sq2 "value" "[B" (.ref u3) := P1.keep K7c nin0
  have F1_12 : Fld Z T7.heap u1 sq2 "coder" "B" (.int 0) := P3.keep K7c nin0
  obtain ⟨T13, h13, X13, e13, W13, st13⟩ := putF X7 hx hZ hown (host := "") (Or.inl (tw hw 62 rfl)) Via.refl rfl F1_11 F1_10 (Or.inl (tw hw 63 rfl)) (tw hw 39 rfl) (ty := (.array .byte)) (by decide) rfl rfl (g := (mkF m 35 #[rv u1, iv (Int32.ofNat u2), iv (Int32.ofNat u5)] [(.ref e1x), (.ref u1)])) rfl rfl (hb hby d20_35)
  have K13 : Keep h0 h13 [u1] := K7.wr W13 (Or.inl (List.mem_of_getElem? (i := 0) rfl))
  have N13 := Fr.snoc X13 N7 P18
  have Fw13 : Fld Z h13 u1 sq2 "value" "[B" (.ref e1x) := F1_11.same W13
  have F2_14 : Fld Z h13 u1 sq2 "coder" "B" (.int 0) := F1_12.other W13 (Or.inr (slot_ne (Or.inl (tw hw 65 rfl)) (Or.inl (tw hw 63 rfl)) (by decide) (t := .byte) (t' := (.array .byte)) (by decide) (by decide)))
  have F2_15 : Exa Z h13 u1 sq4 := F1_10.wr W13
  have F2_16 : Fld Z h13 u1 sq2 "count" "I" (.int (Int32.ofNat u6.length)) := F1_8.other W13 (Or.inr (slot_ne (Or.inl (tw hw 103 rfl)) (Or.inl (tw hw 63 rfl)) (by decide) (t := .int) (t' := (.array .byte)) (by decide) (by decide)))
  have F2_17 : Fld Z h13 u1 sq2 "maybeLatin1" "Z" (.int 0) := F1_9.other W13 (Or.inr (slot_ne (Or.inl (tw hw 275 rfl)) (Or.inl (tw hw 63 rfl)) (by decide) (t := .boolean) (t' := (.array .byte)) (by decide) (by decide)))
  have F2_18 : Arv Z h13 e1x e2x .byte (Int32.ofNat (u5 + (u5 + 2))) (own_lo u6) (.int (0 : Int32)) := Fq7_0.other W13 (Ne.symm (Nat.ne_of_lt (Nat.lt_of_lt_of_le P19 bz_b7)))
  have F2_19 : Exa Z h13 e1x "[B" := Fq7_1.wr W13
  have sz0_b7 : h0.size ≤ e1x := Nat.le_trans (Keep.refl h0 [u1]).1 bz_b7
  obtain ⟨fs, hr, hrun, hended, hW, hsame⟩ := X13.leave (v := none) (fun _ => rfl)
  refine ⟨_, _, pre0 _ ?_, hrun, hended, _, _, rfl, ?_, ⟨_, rfl⟩, hW, hsame.mono (by decide) (by decide)⟩
  · show SF p e below s₁ (mkF m 0 #[rv u1, iv (Int32.ofNat u2), .unset] []) _
    refine XS.aloadN X0.here hx rfl (hb hby d20_0) rfl rfl ?_
    refine st1 _ ?_
    refine X1.arraylength hx (by rw [e1]; exact Ar2.1) (State.isArrayOf_alike hZ.alike Ar2.2.1) (g := (mkF m 4 #[rv u1, iv (Int32.ofNat u2), .unset] [(.ref u3)])) rfl rfl (hb hby d20_4) _ ?_
    rw [len_of S2 N2z]
    refine XS.aloadN X1.here hx rfl (hb hby d20_5) rfl rfl ?_
    refine st3 _ ?_
    refine XS.ishr X3.here hx rfl (hb hby d20_9) rfl ?_
    show SF p e below T3 (mkF m 10 #[rv u1, iv (Int32.ofNat u2), .unset] [(.int ((Int32.ofNat u5) >>> ((0 : Int32) &&& 31)))]) _
    rw [(show ((Int32.ofNat u5) >>> ((0 : Int32) &&& 31)) = (Int32.ofNat u5) from StrChars.shr0 _)]
    refine XS.istoreN X3.here hx rfl (hb hby d20_10) rfl (l' := #[rv u1, iv (Int32.ofNat u2), iv (Int32.ofNat u5)]) rfl ?_
    refine XS.iloadN X3.here hx rfl (hb hby d20_11) rfl ?_
    refine XS.iloadN X3.here hx rfl (hb hby d20_12) rfl ?_
    refine XS.isub X3.here hx rfl (hb hby d20_13) rfl ?_
    refine XS.ifNo X3.here hx rfl (hb hby d20_14) rfl ((if0 _ _).trans (tlt P4).2.2.2) ?_
    refine XS.aloadN X3.here hx rfl (hb hby d20_17) rfl rfl ?_
    refine XS.aloadN X3.here hx rfl (hb hby d20_18) rfl rfl ?_
    refine st4 _ ?_
    refine XS.aloadN X4.here hx rfl (hb hby d20_22) rfl rfl ?_
    refine XS.iloadN X4.here hx rfl (hb hby d20_23) rfl ?_
    refine st5.trans ?_
    refine XS.aloadN X5.here hx rfl (hb hby d20_27) rfl rfl ?_
    refine st6 _ ?_
    refine XS.ishl X6.here hx rfl (hb hby d20_31) rfl ?_
    show SF p e below T6 (mkF m 32 #[rv u1, iv (Int32.ofNat u2), iv (Int32.ofNat u5)] [(.int ((Int32.ofNat (u5 + (u5 + 2))) <<< ((0 : Int32) &&& 31))), (.ref u3), (.ref u1)]) _
    rw [(show ((Int32.ofNat (u5 + (u5 + 2))) <<< ((0 : Int32) &&& 31)) = (Int32.ofNat (u5 + (u5 + 2))) from own_shl0 _)]
    refine st7 _ ?_
    refine st13 _ ?_
    exact X13.returnOut hx hre (hb hby d20_38) hr
  · show Q20_17 Z u1 u2 u3 u4 u5 u6 h0 n0 _ T13.heap _
    rw [e13]
    exact ⟨e1x, e2x, sz0_b7, rfl, N13, K13, Fw13, F2_14, F2_15, F2_16, F2_17, F2_18, F2_19⟩
def QE0 (Z : State) (sba ta : Addr) (csa : List Int32) (mia : Nat) (h0 : Heap) (n0 : Nat) (v : Option Value) (h : Heap) (L : List Loc) : Prop := ∃ (t' : Addr) (k' : ClassId) (n' : Nat), (t' = ta ∨ h0.size ≤ t') ∧ t' ≠ sba ∧ n0 ≤ t' ∧ mia ≤ n' ∧ n' < 13 ∧ v = none ∧ Fr n0 L ∧ Keep h0 h [sba] ∧ Exa Z h sba sq4 ∧ Fld Z h sba sq2 "value" "[B" (.ref t') ∧ Fld Z h sba sq2 "coder" "B" (.int 0) ∧ Fld Z h sba sq2 "count" "I" (.int (Int32.ofNat csa.length)) ∧ Fld Z h sba sq2 "maybeLatin1" "Z" (.int 0) ∧ Exa Z h t' "[B" ∧ Arv Z h t' k' .byte (Int32.ofNat n') (own_lo csa) (.int (0 : Int32))
theorem ens0 (l : Launch) (Z : State) (a0 : Array Value) (hw : HW Z a0) (ws : List Jvm.Cond) (GC : Int32) (GF : Value) (sba ta : Addr) (kta : ClassId) (nna mia : Nat) (csa : List Int32) (h0 : Heap) (n0 : Nat) (Z0 : n0 ≤ h0.size) (S : St Z GC GF) (O : Old Z n0 h0) (Eb : Exa Z h0 sba sq4) (Fv : Fld Z h0 sba sq2 "value" "[B" (.ref ta)) (Fc : Fld Z h0 sba sq2 "coder" "B" (.int 0)) (Fn : Fld Z h0 sba sq2 "count" "I" (.int (Int32.ofNat csa.length))) (Fm : Fld Z h0 sba sq2 "maybeLatin1" "Z" (.int 0)) (Et : Exa Z h0 ta "[B") (At : Arv Z h0 ta kta .byte (Int32.ofNat nna) (own_lo csa) (.int (0 : Int32))) (ne : ta ≠ sba) (gs : n0 ≤ sba) (gt : n0 ≤ ta) (hk : csa.length ≤ nna) (hn : nna < 13) (hk7 : csa.length < 7) (hm : mia < 7) (hm2 : mia ≤ nna + 2) (hn0 : 0 < nna) :
    MF l Z mq6 (Jvm.Cond.code mq6 jdk_68_method_9_code 3 none) ws rq18 #[(.ref sba), (.int (Int32.ofNat mia))] h0 (QE0 Z sba ta csa mia h0 n0) := by
  by_cases hg : mia ≤ nna
  · refine own_mf (rm20_11 l Z a0 hw ws sba mia ta kta nna csa h0 n0 Z0 Fv At Fc ((own_all3 7 13 7 (C := fun q nna mia => (q ≤ nna ∧ mia ≤ nna + 2 ∧ 0 < nna ∧ mia ≤ nna)) (P := fun q nna mia => ¬ ((0 : Int32) < ((Int32.ofNat mia) - (Int32.ofNat nna)))) (by decide +kernel) csa.length hk7 nna hn mia hm ⟨hk, hm2, hn0, hg⟩))) fun v h L q => ?_
    obtain ⟨q1, q2, rfl⟩ := q
    exact ⟨ta, kta, nna, Or.inl rfl, ne, gt, hg, hn, q1, q2, Keep.refl _ _, Eb, Fv, Fc, Fn, Fm, Et, At⟩
  · refine own_mf (rm20_17 l Z a0 hw ws sba mia ta kta nna csa h0 n0 Z0 Fv At Fc ((own_all3 7 13 7 (C := fun q nna mia => (q ≤ nna ∧ mia ≤ nna + 2 ∧ 0 < nna ∧ ¬ mia ≤ nna)) (P := fun q nna mia => (0 : Int32) < ((Int32.ofNat mia) - (Int32.ofNat nna))) (by decide +kernel) csa.length hk7 nna hn mia hm ⟨hk, hm2, hn0, hg⟩)) Eb ((own_all3 7 13 7 (C := fun q nna mia => (q ≤ nna ∧ mia ≤ nna + 2 ∧ 0 < nna ∧ ¬ mia ≤ nna)) (P := fun q nna mia => ((Int32.ofNat mia) - (Int32.ofNat nna)) < (Int32.ofNat (nna + 2))) (by decide +kernel) csa.length hk7 nna hn mia hm ⟨hk, hm2, hn0, hg⟩)) ((own_all3 7 13 7 (C := fun q nna mia => (q ≤ nna ∧ mia ≤ nna + 2 ∧ 0 < nna ∧ ¬ mia ≤ nna)) (P := fun q nna mia => (0 : Int32) < (Int32.ofNat (nna + (nna + 2)))) (by decide +kernel) csa.length hk7 nna hn mia hm ⟨hk, hm2, hn0, hg⟩)) ((own_all3 7 13 7 (C := fun q nna mia => (q ≤ nna ∧ mia ≤ nna + 2 ∧ 0 < nna ∧ ¬ mia ≤ nna)) (P := fun q nna mia => ¬ ((2147483639 : Int32) < (Int32.ofNat (nna + (nna + 2))))) (by decide +kernel) csa.length hk7 nna hn mia hm ⟨hk, hm2, hn0, hg⟩)) ((own_all3 7 13 7 (C := fun q nna mia => (q ≤ nna ∧ mia ≤ nna + 2 ∧ 0 < nna ∧ ¬ mia ≤ nna)) (P := fun q nna mia => ¬ ((Int32.ofNat (nna + (nna + 2))) = (2147483647 : Int32))) (by decide +kernel) csa.length hk7 nna hn mia hm ⟨hk, hm2, hn0, hg⟩)) ((own_all3 7 13 7 (C := fun q nna mia => (q ≤ nna ∧ mia ≤ nna + 2 ∧ 0 < nna ∧ ¬ mia ≤ nna)) (P := fun q nna mia => ¬ ((Int32.ofNat (nna + (nna + 2))) = (Int32.ofNat nna))) (by decide +kernel) csa.length hk7 nna hn mia hm ⟨hk, hm2, hn0, hg⟩)) ((own_all3 7 13 7 (C := fun q nna mia => (q ≤ nna ∧ mia ≤ nna + 2 ∧ 0 < nna ∧ ¬ mia ≤ nna)) (P := fun q nna mia => ¬ (Int32.ofNat (nna + (nna + 2))) < 0) (by decide +kernel) csa.length hk7 nna hn mia hm ⟨hk, hm2, hn0, hg⟩)) ((own_all3 7 13 7 (C := fun q nna mia => (q ≤ nna ∧ mia ≤ nna + 2 ∧ 0 < nna ∧ ¬ mia ≤ nna)) (P := fun q nna mia => ((Int32.ofNat (nna + (nna + 2)))).toNatClampNeg ≤ 24) (by decide +kernel) csa.length hk7 nna hn mia hm ⟨hk, hm2, hn0, hg⟩)) ((own_all3 7 13 7 (C := fun q nna mia => (q ≤ nna ∧ mia ≤ nna + 2 ∧ 0 < nna ∧ ¬ mia ≤ nna)) (P := fun q nna mia => ¬ ((Int32.ofNat (nna + (nna + 2))) < (Int32.ofNat nna))) (by decide +kernel) csa.length hk7 nna hn mia hm ⟨hk, hm2, hn0, hg⟩)) ((own_all3 7 13 7 (C := fun q nna mia => (q ≤ nna ∧ mia ≤ nna + 2 ∧ 0 < nna ∧ ¬ mia ≤ nna)) (P := fun q nna mia => ((0 : Int32)).toNatClampNeg = ([] : List Value).length ∧ ¬ (0 : Int32) < 0) (by decide +kernel) csa.length hk7 nna hn mia hm ⟨hk, hm2, hn0, hg⟩)) (by rw [own_lo_len]; exact (own_all3 7 13 7 (C := fun q nna mia => (q ≤ nna ∧ mia ≤ nna + 2 ∧ 0 < nna ∧ ¬ mia ≤ nna)) (P := fun q nna mia => ¬ (Int32.ofNat nna) < 0 ∧ q ≤ ((Int32.ofNat nna)).toNatClampNeg ∧ ((Int32.ofNat nna)).toNatClampNeg ≤ ((Int32.ofNat nna)).toNatClampNeg ∧ ([] : List Value).length + ((Int32.ofNat nna)).toNatClampNeg ≤ ((Int32.ofNat (nna + (nna + 2)))).toNatClampNeg) (by decide +kernel) csa.length hk7 nna hn mia hm ⟨hk, hm2, hn0, hg⟩)) Fn Fm gs Eb.lt) fun v h L q => ?_
    obtain ⟨b, k, sz, q1, q2, q3, f0, f1, f2, f3, f4, f5, f6⟩ := q
    exact ⟨b, k, nna + (nna + 2), Or.inr sz, Nat.ne_of_gt (Nat.lt_of_lt_of_le Eb.lt sz), Nat.le_trans Z0 sz, by omega, by omega, q1, q2, q3, f2, f0, f1, f3, f4, f6, f5⟩
def Q20_18 (Z : State) (u1 : Addr) (u2 : Nat) (u3 : Addr) (u4 : ClassId) (u5 : Nat) (u6 : List Int32) (h0 : Heap) (n0 : Nat) (v : Option Value) (h : Heap) (L : List Loc) : Prop := v = none ∧ Fr n0 L ∧ h = h0
theorem rm20_18 (l : Launch) (Z : State) (a0 : Array Value) (hw : HW Z a0) (ws : List Jvm.Cond) (u1 : Addr) (u2 : Nat) (u3 : Addr) (u4 : ClassId) (u5 : Nat) (u6 : List Int32) (h0 : Heap) (n0 : Nat) (Z0 : n0 ≤ h0.size) (P1 : Fld Z h0 u1 sq2 "value" "[B" (.ref u3)) (P2 : Arv Z h0 u3 u4 .byte (Int32.ofNat (2 * u5)) (own_wd u6) (.int (0 : Int32))) (P3 : Fld Z h0 u1 sq2 "coder" "B" (.int 1)) (P4 : u5 < 100) (P5 : ¬ ((0 : Int32) < ((Int32.ofNat u2) - (Int32.ofNat u5)))) :
    MF l Z mq6 (Jvm.Cond.code mq6 jdk_68_method_9_code 3 none) ws rq18 #[(.ref u1), (.int (Int32.ofNat u2))] h0 (Q20_18 Z u1 u2 u3 u4 u5 u6 h0 n0) := by
  refine own_enter (plainFor_of_name pn_4) fun p e s m below meth c s₁ X0 hx hby hml hown hnm hZ e0 hre hlk => ?_
  have N0 := Fr.nil n0
  have pre0 : ∀ t, SF p e below s₁ (mkF m 0 #[rv u1, iv (Int32.ofNat u2), .unset] []) t → SF p e below s₁ (entryFrame m #[(.ref u1), (.int (Int32.ofNat u2))] 3) t := fun t k => castTop (ef_11 m u1 (Int32.ofNat u2)) k
  obtain ⟨T1, X1, e1, st1⟩ := getF X0 hx hZ hown (host := "") (Or.inl (tw hw 62 rfl)) Via.refl e0 P1 (g := (mkF m 1 #[rv u1, iv (Int32.ofNat u2), .unset] [(.ref u1)])) rfl rfl (hb hby d20_1)
  obtain ⟨cl2, Ar2, q2, S2, N2z, H2, G2⟩ := id P2
  obtain ⟨T3, X3, e3, st3⟩ := getF X1 hx hZ hown (host := "") (Or.inl (tw hw 64 rfl)) Via.refl e1 P3 (g := (mkF m 6 #[rv u1, iv (Int32.ofNat u2), .unset] [(.ref u1), (.int (Int32.ofNat (2 * u5)))])) rfl rfl (hb hby d20_6)
  obtain ⟨fs, hr, hrun, hended, hW, hsame⟩ := X3.leave (v := none) (fun _ => rfl)
  refine ⟨_, _, pre0 _ ?_, hrun, hended, _, _, rfl, ?_, ⟨_, rfl⟩, hW, hsame.mono (by decide) (by decide)⟩
  · show SF p e below s₁ (mkF m 0 #[rv u1, iv (Int32.ofNat u2), .unset] []) _
    refine XS.aloadN X0.here hx rfl (hb hby d20_0) rfl rfl ?_
    refine st1 _ ?_
    refine X1.arraylength hx (by rw [e1]; exact Ar2.1) (State.isArrayOf_alike hZ.alike Ar2.2.1) (g := (mkF m 4 #[rv u1, iv (Int32.ofNat u2), .unset] [(.ref u3)])) rfl rfl (hb hby d20_4) _ ?_
    rw [len_of S2 N2z]
    refine XS.aloadN X1.here hx rfl (hb hby d20_5) rfl rfl ?_
    refine st3 _ ?_
    refine XS.ishr X3.here hx rfl (hb hby d20_9) rfl ?_
    show SF p e below T3 (mkF m 10 #[rv u1, iv (Int32.ofNat u2), .unset] [(.int ((Int32.ofNat (2 * u5)) >>> ((1 : Int32) &&& 31)))]) _
    rw [(show ((Int32.ofNat (2 * u5)) >>> ((1 : Int32) &&& 31)) = (Int32.ofNat u5) from StrChars.shr1 (own_b31 P4))]
    refine XS.istoreN X3.here hx rfl (hb hby d20_10) rfl (l' := #[rv u1, iv (Int32.ofNat u2), iv (Int32.ofNat u5)]) rfl ?_
    refine XS.iloadN X3.here hx rfl (hb hby d20_11) rfl ?_
    refine XS.iloadN X3.here hx rfl (hb hby d20_12) rfl ?_
    refine XS.isub X3.here hx rfl (hb hby d20_13) rfl ?_
    refine XS.ifYes X3.here hx rfl (pc0 := 14) (pc' := 38) rfl (hb hby d20_14) rfl ((if0 _ _).trans (flt P5).2.2.2) (by decide) (by decide) ?_
    exact X3.returnOut hx hre (hb hby d20_38) hr
  · show Q20_18 Z u1 u2 u3 u4 u5 u6 h0 n0 _ T3.heap _
    rw [e3]
    exact ⟨rfl, N0, rfl⟩
def Q23_19 (Z : State) (u1 : Nat) (u2 : Nat) (h0 : Heap) (n0 : Nat) (v : Option Value) (h : Heap) (L : List Loc) : Prop := v = some (.int (Int32.ofNat (2 * u2 + 4))) ∧ Fr n0 L ∧ h = h0
theorem rm23_19 (l : Launch) (Z : State) (a0 : Array Value) (hw : HW Z a0) (ws : List Jvm.Cond) (u1 : Nat) (u2 : Nat) (h0 : Heap) (n0 : Nat) (Z0 : n0 ≤ h0.size) (P1 : ((Int32.ofNat (2 * u1)) - (Int32.ofNat (2 * u2))) < (Int32.ofNat (2 * u2 + 4))) :
    MF l Z mq14 (Jvm.Cond.code mq14 jdk_29_method_65_code 2 (some .int)) ws rq0 #[(.int ((Int32.ofNat (2 * u1)) - (Int32.ofNat (2 * u2)))), (.int (Int32.ofNat (2 * u2 + 4)))] h0 (Q23_19 Z u1 u2 h0 n0) := by
  refine own_enter (Jvm.Free.JP.mathPlain rfl (by decide +kernel)) fun p e s m below meth c s₁ X0 hx hby hml hown hnm hZ e0 hre hlk => ?_
  have N0 := Fr.nil n0
  have pre0 : ∀ t, SF p e below s₁ (mkF m 0 #[iv ((Int32.ofNat (2 * u1)) - (Int32.ofNat (2 * u2))), iv (Int32.ofNat (2 * u2 + 4))] []) t → SF p e below s₁ (entryFrame m #[(.int ((Int32.ofNat (2 * u1)) - (Int32.ofNat (2 * u2)))), (.int (Int32.ofNat (2 * u2 + 4)))] 2) t := fun t k => castTop (ef_12 m ((Int32.ofNat (2 * u1)) - (Int32.ofNat (2 * u2))) (Int32.ofNat (2 * u2 + 4))) k
  obtain ⟨fs, hr, hrun, hended, hW, hsame⟩ := X0.leave (v := some (.int (Int32.ofNat (2 * u2 + 4)))) (fun h => by rw [hre] at h; cases h)
  refine ⟨_, _, pre0 _ ?_, hrun, hended, _, _, rfl, ?_, ⟨_, rfl⟩, hW, hsame.mono (by decide) (by decide)⟩
  · show SF p e below s₁ (mkF m 0 #[iv ((Int32.ofNat (2 * u1)) - (Int32.ofNat (2 * u2))), iv (Int32.ofNat (2 * u2 + 4))] []) _
    refine XS.iloadN X0.here hx rfl (hb hby d23_0) rfl ?_
    refine XS.iloadN X0.here hx rfl (hb hby d23_1) rfl ?_
    refine XS.icmpYes X0.here hx rfl (pc0 := 2) (pc' := 9) rfl (hb hby d23_2) rfl (tlt P1).1 (by decide) (by decide) ?_
    refine XS.iloadN X0.here hx rfl (hb hby d23_9) rfl ?_
    exact retI X0 hx hre (hb hby d23_10) hr
  · show Q23_19 Z u1 u2 h0 n0 _ s₁.heap _
    rw [e0]
    exact ⟨rfl, N0, rfl⟩
def Q22_20 (Z : State) (u1 : Nat) (u2 : Nat) (h0 : Heap) (n0 : Nat) (v : Option Value) (h : Heap) (L : List Loc) : Prop := v = some (.int (Int32.ofNat (2 * u1 + (2 * u1 + 4)))) ∧ Fr n0 L ∧ h = h0
theorem rm22_20 (l : Launch) (Z : State) (a0 : Array Value) (hw : HW Z a0) (ws : List Jvm.Cond) (u1 : Nat) (u2 : Nat) (h0 : Heap) (n0 : Nat) (Z0 : n0 ≤ h0.size) (P1 : ((Int32.ofNat (2 * u2)) - (Int32.ofNat (2 * u1))) < (Int32.ofNat (2 * u1 + 4))) (P2 : (0 : Int32) < (Int32.ofNat (2 * u1 + (2 * u1 + 4)))) (P3 : ¬ ((2147483639 : Int32) < (Int32.ofNat (2 * u1 + (2 * u1 + 4))))) :
    MF l Z mq52 (Jvm.Cond.code mq52 jdk_48_method_27_code 4 (some .int)) ws rq4 #[(.int (Int32.ofNat (2 * u1))), (.int ((Int32.ofNat (2 * u2)) - (Int32.ofNat (2 * u1)))), (.int (Int32.ofNat (2 * u1 + 4)))] h0 (Q22_20 Z u1 u2 h0 n0) := by
  refine own_enter (plainFor_of_name pn_5) fun p e s m below meth c s₁ X0 hx hby hml hown hnm hZ e0 hre hlk => ?_
  have N0 := Fr.nil n0
  have pre0 : ∀ t, SF p e below s₁ (mkF m 0 #[iv (Int32.ofNat (2 * u1)), iv ((Int32.ofNat (2 * u2)) - (Int32.ofNat (2 * u1))), iv (Int32.ofNat (2 * u1 + 4)), .unset] []) t → SF p e below s₁ (entryFrame m #[(.int (Int32.ofNat (2 * u1))), (.int ((Int32.ofNat (2 * u2)) - (Int32.ofNat (2 * u1)))), (.int (Int32.ofNat (2 * u1 + 4)))] 4) t := fun t k => castTop (ef_13 m (Int32.ofNat (2 * u1)) ((Int32.ofNat (2 * u2)) - (Int32.ofNat (2 * u1))) (Int32.ofNat (2 * u1 + 4))) k
  obtain ⟨_, _, ⟨T1, L1, k1x, n1⟩, -, X1, ⟨Lc1, hQ1, l1, y1, z1⟩, st1⟩ := Jvm.LawKit.callS X0 hx (y := mq14) hown (mvT hZ (tw hw 118 rfl)) (mvT hZ (tw hw 119 rfl)) (mvT hZ (tw hw 120 rfl)) (mvT hZ (tw hw 121 rfl)) (by decide) (backOf (W := 1) (rm23_19 l Z a0 hw [] u2 u1 h0 n0 Z0 P1) hZ (tw hw 121 rfl) (tw hw 120 rfl) (by decide) (by decide)) (g := (mkF m 3 #[iv (Int32.ofNat (2 * u1)), iv ((Int32.ofNat (2 * u2)) - (Int32.ofNat (2 * u1))), iv (Int32.ofNat (2 * u1 + 4)), .unset] [(.int (Int32.ofNat (2 * u1 + 4))), (.int ((Int32.ofNat (2 * u2)) - (Int32.ofNat (2 * u1)))), (.int (Int32.ofNat (2 * u1)))])) rfl (by rw [hml]; rfl) (argsL := [(.int ((Int32.ofNat (2 * u2)) - (Int32.ofNat (2 * u1)))), (.int (Int32.ofNat (2 * u1 + 4)))]) (rest := [(.int (Int32.ofNat (2 * u1)))]) (lenOf pd_9 rfl) rfl (Nat.le_of_eq rfl) (hb hby d22_3) (fun _ _ => ⟨rfl, e0, (by decide : 0 + 0 ≤ _), (by decide : 0 + 0 ≤ _)⟩)
  dsimp only [Pt.U, Pt.locs, Pt.cells, Pt.slots] at X1 l1 y1 z1 st1 hQ1
  subst l1 y1 z1
  obtain ⟨rfl, N1q, e1⟩ := hQ1
  have N1 := Fr.app N0 N1q
  obtain ⟨fs, hr, hrun, hended, hW, hsame⟩ := X1.leave (v := some (.int (Int32.ofNat (2 * u1 + (2 * u1 + 4))))) (fun h => by rw [hre] at h; cases h)
  refine ⟨_, _, pre0 _ ?_, hrun, hended, _, _, rfl, ?_, ⟨_, rfl⟩, hW, hsame.mono (by decide) (by decide)⟩
  · show SF p e below s₁ (mkF m 0 #[iv (Int32.ofNat (2 * u1)), iv ((Int32.ofNat (2 * u2)) - (Int32.ofNat (2 * u1))), iv (Int32.ofNat (2 * u1 + 4)), .unset] []) _
    refine XS.iloadN X0.here hx rfl (hb hby d22_0) rfl ?_
    refine XS.iloadN X0.here hx rfl (hb hby d22_1) rfl ?_
    refine XS.iloadN X0.here hx rfl (hb hby d22_2) rfl ?_
    refine st1 _ ?_
    refine XS.iadd X1.here hx rfl (hb hby d22_6) rfl ?_
    show SF p e below T1 (mkF m 7 #[iv (Int32.ofNat (2 * u1)), iv ((Int32.ofNat (2 * u2)) - (Int32.ofNat (2 * u1))), iv (Int32.ofNat (2 * u1 + 4)), .unset] [(.int ((Int32.ofNat (2 * u1)) + (Int32.ofNat (2 * u1 + 4))))]) _
    rw [(show ((Int32.ofNat (2 * u1)) + (Int32.ofNat (2 * u1 + 4))) = (Int32.ofNat (2 * u1 + (2 * u1 + 4))) from own_addk _ _)]
    refine XS.istoreN X1.here hx rfl (hb hby d22_7) rfl (l' := #[iv (Int32.ofNat (2 * u1)), iv ((Int32.ofNat (2 * u2)) - (Int32.ofNat (2 * u1))), iv (Int32.ofNat (2 * u1 + 4)), iv (Int32.ofNat (2 * u1 + (2 * u1 + 4)))]) rfl ?_
    refine XS.iconst X1.here hx rfl (hb hby d22_8) ?_
    refine XS.iloadN X1.here hx rfl (hb hby d22_9) rfl ?_
    refine XS.icmpNo X1.here hx rfl (hb hby d22_10) rfl (tlt P2).2.1 ?_
    refine XS.iloadN X1.here hx rfl (hb hby d22_13) rfl ?_
    refine X1.ldcInt hx hown (mvT hZ (tw hw 122 rfl)) (g := (mkF m 14 #[iv (Int32.ofNat (2 * u1)), iv ((Int32.ofNat (2 * u2)) - (Int32.ofNat (2 * u1))), iv (Int32.ofNat (2 * u1 + 4)), iv (Int32.ofNat (2 * u1 + (2 * u1 + 4)))] [(.int (Int32.ofNat (2 * u1 + (2 * u1 + 4))))])) rfl (hb hby d22_14) _ ?_
    refine XS.icmpNo X1.here hx rfl (hb hby d22_16) rfl (flt P3).2.2.1 ?_
    refine XS.iloadN X1.here hx rfl (hb hby d22_19) rfl ?_
    exact retI X1 hx hre (hb hby d22_20) hr
  · show Q22_20 Z u1 u2 h0 n0 _ T1.heap _
    rw [e1]
    exact ⟨rfl, N1, rfl⟩
def Q21_21 (Z : State) (u1 : Addr) (u2 : Nat) (u3 : Addr) (u4 : ClassId) (u5 : Nat) (u6 : List Int32) (h0 : Heap) (n0 : Nat) (v : Option Value) (h : Heap) (L : List Loc) : Prop := v = some (.int (Int32.ofNat (2 * u5 + 2))) ∧ Fr n0 L ∧ h = h0
theorem rm21_21 (l : Launch) (Z : State) (a0 : Array Value) (hw : HW Z a0) (ws : List Jvm.Cond) (u1 : Addr) (u2 : Nat) (u3 : Addr) (u4 : ClassId) (u5 : Nat) (u6 : List Int32) (h0 : Heap) (n0 : Nat) (Z0 : n0 ≤ h0.size) (P1 : Fld Z h0 u1 sq2 "value" "[B" (.ref u3)) (P2 : Arv Z h0 u3 u4 .byte (Int32.ofNat (2 * u5)) (own_wd u6) (.int (0 : Int32))) (P3 : Fld Z h0 u1 sq2 "coder" "B" (.int 1)) (P4 : ((Int32.ofNat (2 * u2)) - (Int32.ofNat (2 * u5))) < (Int32.ofNat (2 * u5 + 4))) (P5 : (0 : Int32) < (Int32.ofNat (2 * u5 + (2 * u5 + 4)))) (P6 : ¬ ((2147483639 : Int32) < (Int32.ofNat (2 * u5 + (2 * u5 + 4))))) (P7 : ¬ ((Int32.ofNat (2 * u5 + (2 * u5 + 4))) = (2147483647 : Int32))) (P8 : (2 * u5 + 2) < 100) :
    MF l Z mq12 (Jvm.Cond.code mq12 jdk_68_method_10_code 6 (some .int)) ws rq9 #[(.ref u1), (.int (Int32.ofNat u2))] h0 (Q21_21 Z u1 u2 u3 u4 u5 u6 h0 n0) := by
  refine own_enter (plainFor_of_name pn_4) fun p e s m below meth c s₁ X0 hx hby hml hown hnm hZ e0 hre hlk => ?_
  have N0 := Fr.nil n0
  have pre0 : ∀ t, SF p e below s₁ (mkF m 0 #[rv u1, iv (Int32.ofNat u2), .unset, .unset, .unset, .unset] []) t → SF p e below s₁ (entryFrame m #[(.ref u1), (.int (Int32.ofNat u2))] 6) t := fun t k => castTop (ef_14 m u1 (Int32.ofNat u2)) k
  obtain ⟨T1, X1, e1, st1⟩ := getF X0 hx hZ hown (host := "") (Or.inl (tw hw 62 rfl)) Via.refl e0 P1 (g := (mkF m 1 #[rv u1, iv (Int32.ofNat u2), .unset, .unset, .unset, .unset] [(.ref u1)])) rfl rfl (hb hby d21_1)
  obtain ⟨cl2, Ar2, q2, S2, N2z, H2, G2⟩ := id P2
  obtain ⟨T3, X3, e3, st3⟩ := getF X1 hx hZ hown (host := "") (Or.inl (tw hw 64 rfl)) Via.refl e1 P3 (g := (mkF m 8 #[rv u1, iv (Int32.ofNat u2), iv (Int32.ofNat (2 * u5)), .unset, .unset, .unset] [(.ref u1), (.int (Int32.ofNat u2))])) rfl rfl (hb hby d21_8)
  obtain ⟨T4, X4, e4, st4⟩ := getF X3 hx hZ hown (host := "") (Or.inl (tw hw 64 rfl)) Via.refl e3 P3 (g := (mkF m 24 #[rv u1, iv (Int32.ofNat u2), iv (Int32.ofNat (2 * u5)), iv (Int32.ofNat (2 * u2)), iv ((Int32.ofNat (2 * u2)) - (Int32.ofNat (2 * u5))), .unset] [(.ref u1), (.int 2), (.int (Int32.ofNat (2 * u5))), (.int ((Int32.ofNat (2 * u2)) - (Int32.ofNat (2 * u5)))), (.int (Int32.ofNat (2 * u5)))])) rfl rfl (hb hby d21_24)
  obtain ⟨_, _, ⟨T5, L5, k5x, n5⟩, -, X5, ⟨Lc5, hQ5, l5, y5, z5⟩, st5⟩ := Jvm.LawKit.callS X4 hx (y := mq52) hown (mvT hZ (tw hw 114 rfl)) (mvT hZ (tw hw 115 rfl)) (mvT hZ (tw hw 116 rfl)) (mvT hZ (tw hw 117 rfl)) (by decide) (backOf (W := 0) (rm22_20 l Z a0 hw [] u5 u2 h0 n0 Z0 P4 P5 P6) hZ (tw hw 117 rfl) (tw hw 116 rfl) (by decide) (by decide)) (g := (mkF m 29 #[rv u1, iv (Int32.ofNat u2), iv (Int32.ofNat (2 * u5)), iv (Int32.ofNat (2 * u2)), iv ((Int32.ofNat (2 * u2)) - (Int32.ofNat (2 * u5))), .unset] [(.int (Int32.ofNat (2 * u5 + 4))), (.int ((Int32.ofNat (2 * u2)) - (Int32.ofNat (2 * u5)))), (.int (Int32.ofNat (2 * u5)))])) rfl (by rw [hml]; rfl) (argsL := [(.int (Int32.ofNat (2 * u5))), (.int ((Int32.ofNat (2 * u2)) - (Int32.ofNat (2 * u5)))), (.int (Int32.ofNat (2 * u5 + 4)))]) (rest := []) (lenOf pd_3 rfl) rfl (Nat.le_of_eq rfl) (hb hby d21_29) (fun _ _ => ⟨rfl, e4, (by decide : 0 + 0 ≤ _), (by decide : 0 + 0 ≤ _)⟩)
  dsimp only [Pt.U, Pt.locs, Pt.cells, Pt.slots] at X5 l5 y5 z5 st5 hQ5
  subst l5 y5 z5
  obtain ⟨rfl, N5q, e5⟩ := hQ5
  have N5 := Fr.app N0 N5q
  obtain ⟨T6, X6, e6, st6⟩ := getF X5 hx hZ hown (host := "") (Or.inl (tw hw 64 rfl)) Via.refl e5 P3 (g := (mkF m 54 #[rv u1, iv (Int32.ofNat u2), iv (Int32.ofNat (2 * u5)), iv (Int32.ofNat (2 * u2)), iv ((Int32.ofNat (2 * u2)) - (Int32.ofNat (2 * u5))), iv (Int32.ofNat (2 * u5 + (2 * u5 + 4)))] [(.ref u1), (.int (Int32.ofNat (2 * u5 + (2 * u5 + 4))))])) rfl rfl (hb hby d21_54)
  obtain ⟨fs, hr, hrun, hended, hW, hsame⟩ := X6.leave (v := some (.int (Int32.ofNat (2 * u5 + 2)))) (fun h => by rw [hre] at h; cases h)
  refine ⟨_, _, pre0 _ ?_, hrun, hended, _, _, rfl, ?_, ⟨_, rfl⟩, hW, hsame.mono (by decide) (by decide)⟩
  · show SF p e below s₁ (mkF m 0 #[rv u1, iv (Int32.ofNat u2), .unset, .unset, .unset, .unset] []) _
    refine XS.aloadN X0.here hx rfl (hb hby d21_0) rfl rfl ?_
    refine st1 _ ?_
    refine X1.arraylength hx (by rw [e1]; exact Ar2.1) (State.isArrayOf_alike hZ.alike Ar2.2.1) (g := (mkF m 4 #[rv u1, iv (Int32.ofNat u2), .unset, .unset, .unset, .unset] [(.ref u3)])) rfl rfl (hb hby d21_4) _ ?_
    rw [len_of S2 N2z]
    refine XS.istoreN X1.here hx rfl (hb hby d21_5) rfl (l' := #[rv u1, iv (Int32.ofNat u2), iv (Int32.ofNat (2 * u5)), .unset, .unset, .unset]) rfl ?_
    refine XS.iloadN X1.here hx rfl (hb hby d21_6) rfl ?_
    refine XS.aloadN X1.here hx rfl (hb hby d21_7) rfl rfl ?_
    refine st3 _ ?_
    refine XS.ishl X3.here hx rfl (hb hby d21_11) rfl ?_
    show SF p e below T3 (mkF m 12 #[rv u1, iv (Int32.ofNat u2), iv (Int32.ofNat (2 * u5)), .unset, .unset, .unset] [(.int ((Int32.ofNat u2) <<< ((1 : Int32) &&& 31)))]) _
    rw [(show ((Int32.ofNat u2) <<< ((1 : Int32) &&& 31)) = (Int32.ofNat (2 * u2)) from own_shl1 _)]
    refine XS.istoreN X3.here hx rfl (hb hby d21_12) rfl (l' := #[rv u1, iv (Int32.ofNat u2), iv (Int32.ofNat (2 * u5)), iv (Int32.ofNat (2 * u2)), .unset, .unset]) rfl ?_
    refine XS.iloadN X3.here hx rfl (hb hby d21_13) rfl ?_
    refine XS.iloadN X3.here hx rfl (hb hby d21_14) rfl ?_
    refine XS.isub X3.here hx rfl (hb hby d21_15) rfl ?_
    refine XS.istore X3.here hx rfl (hb hby d21_16) rfl (l' := #[rv u1, iv (Int32.ofNat u2), iv (Int32.ofNat (2 * u5)), iv (Int32.ofNat (2 * u2)), iv ((Int32.ofNat (2 * u2)) - (Int32.ofNat (2 * u5))), .unset]) rfl ?_
    refine XS.iloadN X3.here hx rfl (hb hby d21_18) rfl ?_
    refine XS.iload X3.here hx rfl (hb hby d21_19) rfl ?_
    refine XS.iloadN X3.here hx rfl (hb hby d21_21) rfl ?_
    refine XS.iconst X3.here hx rfl (hb hby d21_22) ?_
    refine XS.aloadN X3.here hx rfl (hb hby d21_23) rfl rfl ?_
    refine st4 _ ?_
    refine XS.ishl X4.here hx rfl (hb hby d21_27) rfl ?_
    show SF p e below T4 (mkF m 28 #[rv u1, iv (Int32.ofNat u2), iv (Int32.ofNat (2 * u5)), iv (Int32.ofNat (2 * u2)), iv ((Int32.ofNat (2 * u2)) - (Int32.ofNat (2 * u5))), .unset] [(.int ((2 : Int32) <<< ((1 : Int32) &&& 31))), (.int (Int32.ofNat (2 * u5))), (.int ((Int32.ofNat (2 * u2)) - (Int32.ofNat (2 * u5)))), (.int (Int32.ofNat (2 * u5)))]) _
    rw [show ((2 : Int32) <<< ((1 : Int32) &&& 31)) = (4 : Int32) from by decide]
    refine XS.iadd X4.here hx rfl (hb hby d21_28) rfl ?_
    show SF p e below T4 (mkF m 29 #[rv u1, iv (Int32.ofNat u2), iv (Int32.ofNat (2 * u5)), iv (Int32.ofNat (2 * u2)), iv ((Int32.ofNat (2 * u2)) - (Int32.ofNat (2 * u5))), .unset] [(.int ((Int32.ofNat (2 * u5)) + (4 : Int32))), (.int ((Int32.ofNat (2 * u2)) - (Int32.ofNat (2 * u5)))), (.int (Int32.ofNat (2 * u5)))]) _
    rw [(show ((Int32.ofNat (2 * u5)) + (4 : Int32)) = (Int32.ofNat (2 * u5 + 4)) from own_addk _ 4)]
    refine st5 _ ?_
    refine XS.istore X5.here hx rfl (hb hby d21_32) rfl (l' := #[rv u1, iv (Int32.ofNat u2), iv (Int32.ofNat (2 * u5)), iv (Int32.ofNat (2 * u2)), iv ((Int32.ofNat (2 * u2)) - (Int32.ofNat (2 * u5))), iv (Int32.ofNat (2 * u5 + (2 * u5 + 4)))]) rfl ?_
    refine XS.iload X5.here hx rfl (hb hby d21_34) rfl ?_
    refine X5.ldcInt hx hown (mvT hZ (tw hw 123 rfl)) (g := (mkF m 36 #[rv u1, iv (Int32.ofNat u2), iv (Int32.ofNat (2 * u5)), iv (Int32.ofNat (2 * u2)), iv ((Int32.ofNat (2 * u2)) - (Int32.ofNat (2 * u5))), iv (Int32.ofNat (2 * u5 + (2 * u5 + 4)))] [(.int (Int32.ofNat (2 * u5 + (2 * u5 + 4))))])) rfl (hb hby d21_36) _ ?_
    refine XS.icmpYes X5.here hx rfl (pc0 := 38) (pc' := 51) rfl (hb hby d21_38) rfl (feq P7).2 (by decide) (by decide) ?_
    refine XS.iload X5.here hx rfl (hb hby d21_51) rfl ?_
    refine XS.aloadN X5.here hx rfl (hb hby d21_53) rfl rfl ?_
    refine st6 _ ?_
    refine XS.ishr X6.here hx rfl (hb hby d21_57) rfl ?_
    show SF p e below T6 (mkF m 58 #[rv u1, iv (Int32.ofNat u2), iv (Int32.ofNat (2 * u5)), iv (Int32.ofNat (2 * u2)), iv ((Int32.ofNat (2 * u2)) - (Int32.ofNat (2 * u5))), iv (Int32.ofNat (2 * u5 + (2 * u5 + 4)))] [(.int ((Int32.ofNat (2 * u5 + (2 * u5 + 4))) >>> ((1 : Int32) &&& 31)))]) _
    rw [(show ((Int32.ofNat (2 * u5 + (2 * u5 + 4))) >>> ((1 : Int32) &&& 31)) = (Int32.ofNat (2 * u5 + 2)) from by rw [show 2 * u5 + (2 * u5 + 4) = 2 * (2 * u5 + 2) from by omega]; exact StrChars.shr1 (own_b31 P8))]
    exact retI X6 hx hre (hb hby d21_58) hr
  · show Q21_21 Z u1 u2 u3 u4 u5 u6 h0 n0 _ T6.heap _
    rw [e6]
    exact ⟨rfl, N5, rfl⟩
def Q25_22 (Z : State) (u1 : Nat) (h0 : Heap) (n0 : Nat) (v : Option Value) (h : Heap) (L : List Loc) : Prop := v = some (.int (Int32.ofNat (2 * u1))) ∧ Fr n0 L ∧ h = h0
theorem rm25_22 (l : Launch) (Z : State) (a0 : Array Value) (hw : HW Z a0) (ws : List Jvm.Cond) (u1 : Nat) (h0 : Heap) (n0 : Nat) (Z0 : n0 ≤ h0.size) (P1 : ¬ ((Int32.ofNat (2 * (2 * u1 + 2))) < (Int32.ofNat (2 * u1)))) :
    MF l Z mq15 (Jvm.Cond.code mq15 jdk_29_method_69_code 2 (some .int)) ws rq0 #[(.int (Int32.ofNat (2 * u1))), (.int (Int32.ofNat (2 * (2 * u1 + 2))))] h0 (Q25_22 Z u1 h0 n0) := by
  refine own_enter (Jvm.Free.JP.mathPlain rfl (by decide +kernel)) fun p e s m below meth c s₁ X0 hx hby hml hown hnm hZ e0 hre hlk => ?_
  have N0 := Fr.nil n0
  have pre0 : ∀ t, SF p e below s₁ (mkF m 0 #[iv (Int32.ofNat (2 * u1)), iv (Int32.ofNat (2 * (2 * u1 + 2)))] []) t → SF p e below s₁ (entryFrame m #[(.int (Int32.ofNat (2 * u1))), (.int (Int32.ofNat (2 * (2 * u1 + 2))))] 2) t := fun t k => castTop (ef_15 m (Int32.ofNat (2 * u1)) (Int32.ofNat (2 * (2 * u1 + 2)))) k
  obtain ⟨fs, hr, hrun, hended, hW, hsame⟩ := X0.leave (v := some (.int (Int32.ofNat (2 * u1)))) (fun h => by rw [hre] at h; cases h)
  refine ⟨_, _, pre0 _ ?_, hrun, hended, _, _, rfl, ?_, ⟨_, rfl⟩, hW, hsame.mono (by decide) (by decide)⟩
  · show SF p e below s₁ (mkF m 0 #[iv (Int32.ofNat (2 * u1)), iv (Int32.ofNat (2 * (2 * u1 + 2)))] []) _
    refine XS.iloadN X0.here hx rfl (hb hby d25_0) rfl ?_
    refine XS.iloadN X0.here hx rfl (hb hby d25_1) rfl ?_
    refine XS.icmpNo X0.here hx rfl (hb hby d25_2) rfl (flt P1).2.2.1 ?_
    refine XS.iloadN X0.here hx rfl (hb hby d25_5) rfl ?_
    refine XS.goto X0.here hx rfl (pc0 := 6) (pc' := 10) rfl (hb hby d25_6) (by decide) (by decide) ?_
    exact retI X0 hx hre (hb hby d25_10) hr
  · show Q25_22 Z u1 h0 n0 _ s₁.heap _
    rw [e0]
    exact ⟨rfl, N0, rfl⟩
def Q24_23 (Z : State) (u1 : Addr) (u2 : Nat) (u3 : ClassId) (u4 : List Int32) (h0 : Heap) (n0 : Nat) (v : Option Value) (h : Heap) (L : List Loc) : Prop := ∃ e1x : Addr, ∃ e2x : ClassId, h0.size ≤ e1x ∧ v = some (.ref e1x) ∧ Fr n0 L ∧ Keep h0 h [] ∧ Arv Z h e1x e2x .byte (Int32.ofNat (2 * (2 * u2 + 2))) (own_wd u4) (.int (0 : Int32)) ∧ Exa Z h e1x "[B"
theorem rm24_23 (l : Launch) (Z : State) (a0 : Array Value) (hw : HW Z a0) (ws : List Jvm.Cond) (u1 : Addr) (u2 : Nat) (u3 : ClassId) (u4 : List Int32) (h0 : Heap) (n0 : Nat) (Z0 : n0 ≤ h0.size) (P1 : Arv Z h0 u1 u3 .byte (Int32.ofNat (2 * u2)) (own_wd u4) (.int (0 : Int32))) (P2 : ¬ ((Int32.ofNat (2 * (2 * u2 + 2))) = (Int32.ofNat (2 * u2)))) (P3 : ¬ (Int32.ofNat (2 * (2 * u2 + 2))) < 0) (P4 : ((Int32.ofNat (2 * (2 * u2 + 2)))).toNatClampNeg ≤ 24) (P5 : ¬ ((Int32.ofNat (2 * (2 * u2 + 2))) < (Int32.ofNat (2 * u2)))) (P6 : ((0 : Int32)).toNatClampNeg = ([] : List Value).length ∧ ¬ (0 : Int32) < 0) (P7 : ¬ (Int32.ofNat (2 * u2)) < 0 ∧ (own_wd u4).length ≤ ((Int32.ofNat (2 * u2))).toNatClampNeg ∧ ((Int32.ofNat (2 * u2))).toNatClampNeg ≤ ((Int32.ofNat (2 * u2))).toNatClampNeg ∧ ([] : List Value).length + ((Int32.ofNat (2 * u2))).toNatClampNeg ≤ ((Int32.ofNat (2 * (2 * u2 + 2)))).toNatClampNeg) :
    MF l Z mq49 (Jvm.Cond.code mq49 jdk_65_method_121_code 3 (some (.array .byte))) ws rq6 #[(.ref u1), (.int (Int32.ofNat (2 * (2 * u2 + 2))))] h0 (Q24_23 Z u1 u2 u3 u4 h0 n0) := by
  refine own_enter (plainFor_of_name pn_6) fun p e s m below meth c s₁ X0 hx hby hml hown hnm hZ e0 hre hlk => ?_
  have N0 := Fr.nil n0
  have pre0 : ∀ t, SF p e below s₁ (mkF m 0 #[rv u1, iv (Int32.ofNat (2 * (2 * u2 + 2))), .unset] []) t → SF p e below s₁ (entryFrame m #[(.ref u1), (.int (Int32.ofNat (2 * (2 * u2 + 2))))] 3) t := fun t k => castTop (ef_16 m u1 (Int32.ofNat (2 * (2 * u2 + 2)))) k
  obtain ⟨cl1, Ar1, q1, S1, N1z, H1, G1⟩ := id P1
  obtain ⟨T2, h2, e2x, X2, e2, E2, A2, Ex2, st2⟩ := newPE X0 hx hZ (tw hw 23 rfl) e0 (g := (mkF m 15 #[rv u1, iv (Int32.ofNat (2 * (2 * u2 + 2))), .unset] [(.int (Int32.ofNat (2 * (2 * u2 + 2))))])) rfl (hb hby d24_15) rfl P3 (cap := 24) P4 (by decide) (by decide) (by decide) (ad := "[B") rfl
  obtain ⟨e1x, g2⟩ : ∃ z, z = h0.size := ⟨_, rfl⟩
  rw [← g2] at A2 st2 Ex2
  have K2 : Keep h0 h2 [] := (Keep.refl h0 []).ext E2
  have V2 : Arv Z h2 e1x e2x .byte (Int32.ofNat (2 * (2 * u2 + 2))) [] (.int (0 : Int32)) := Arv.new A2 P3
  have F1_3 : Arv Z h2 u1 u3 .byte (Int32.ofNat (2 * u2)) (own_wd u4) (.int (0 : Int32)) := P1.ext E2
  obtain ⟨cl4, Ar4, q4, S4, N4z, H4, G4⟩ := id F1_3
  have Z2 : n0 ≤ h2.size := Nat.le_trans Z0 E2.1
  obtain ⟨_, _, ⟨T5, L5, k5x, n5⟩, -, X5, ⟨Lc5, hQ5, l5, y5, z5⟩, st5⟩ := Jvm.LawKit.callS X2 hx (y := mq15) hown (mvT hZ (tw hw 128 rfl)) (mvT hZ (tw hw 129 rfl)) (mvT hZ (tw hw 120 rfl)) (mvT hZ (tw hw 130 rfl)) (by decide) (backOf (W := 4) (rm25_22 l Z a0 hw [] u2 h2 n0 Z2 P5) hZ (tw hw 130 rfl) (tw hw 120 rfl) (by decide) (by decide)) (g := (mkF m 25 #[rv u1, iv (Int32.ofNat (2 * (2 * u2 + 2))), rv e1x] [(.int (Int32.ofNat (2 * (2 * u2 + 2)))), (.int (Int32.ofNat (2 * u2))), (.int 0), (.ref e1x), (.int 0), (.ref u1)])) rfl (by rw [hml]; rfl) (argsL := [(.int (Int32.ofNat (2 * u2))), (.int (Int32.ofNat (2 * (2 * u2 + 2))))]) (rest := [(.int 0), (.ref e1x), (.int 0), (.ref u1)]) (lenOf pd_9 rfl) rfl (Nat.le_of_eq rfl) (hb hby d24_25) (fun _ _ => ⟨rfl, e2, (by decide : 1 + 0 ≤ _), (by decide : 24 + 0 ≤ _)⟩)
  dsimp only [Pt.U, Pt.locs, Pt.cells, Pt.slots] at X5 l5 y5 z5 st5 hQ5
  subst l5 y5 z5
  obtain ⟨rfl, N5q, e5⟩ := hQ5
  have N5 := Fr.app N0 N5q
  have g_b10 : n0 ≤ e1x := Nat.le_trans Z0 (Nat.le_of_eq g2.symm)
  obtain ⟨T6, h6, Lc6, X6, e6, K6c, N6, V6, st6⟩ := own_acopy X5 hx hZ hown (tw hw 131 rfl) (tw hw 134 rfl) (tw hw 132 rfl) (tw hw 133 rfl) e5 F1_3 V2 (by decide) P6 P7 (g := (mkF m 28 #[rv u1, iv (Int32.ofNat (2 * (2 * u2 + 2))), rv e1x] [(.int (Int32.ofNat (2 * u2))), (.int 0), (.ref e1x), (.int 0), (.ref u1)])) rfl (by rw [hml]; rfl) rfl (hb hby d24_28) (W := 0) (Nat.le_of_eq rfl) (by decide) (by decide) g_b10 N5
  have sz0_b10 : h0.size ≤ e1x := Nat.le_trans (Keep.refl h0 []).1 (Nat.le_of_eq g2.symm)
  have K6 : Keep h0 h6 [] := K2.trans K6c (allS (Or.inr sz0_b10) all0)
  have F2_7 : Exa Z h6 e1x "[B" := Ex2.keep K6c
  obtain ⟨fs, hr, hrun, hended, hW, hsame⟩ := X6.leave (v := some (.ref e1x)) (fun h => by rw [hre] at h; cases h)
  refine ⟨_, _, pre0 _ ?_, hrun, hended, _, _, rfl, ?_, ⟨_, rfl⟩, hW, hsame.mono (by decide) (by decide)⟩
  · show SF p e below s₁ (mkF m 0 #[rv u1, iv (Int32.ofNat (2 * (2 * u2 + 2))), .unset] []) _
    refine XS.iloadN X0.here hx rfl (hb hby d24_0) rfl ?_
    refine XS.aloadN X0.here hx rfl (hb hby d24_1) rfl rfl ?_
    refine X0.arraylength hx (by rw [e0]; exact Ar1.1) (State.isArrayOf_alike hZ.alike Ar1.2.1) (g := (mkF m 2 #[rv u1, iv (Int32.ofNat (2 * (2 * u2 + 2))), .unset] [(.ref u1), (.int (Int32.ofNat (2 * (2 * u2 + 2))))])) rfl rfl (hb hby d24_2) _ ?_
    rw [len_of S1 N1z]
    refine XS.icmpYes X0.here hx rfl (pc0 := 3) (pc' := 14) rfl (hb hby d24_3) rfl (feq P2).2 (by decide) (by decide) ?_
    refine XS.iloadN X0.here hx rfl (hb hby d24_14) rfl ?_
    refine st2 _ ?_
    refine XS.astoreN X2.here hx rfl (hb hby d24_17) rfl rfl (l' := #[rv u1, iv (Int32.ofNat (2 * (2 * u2 + 2))), rv e1x]) rfl ?_
    refine XS.aloadN X2.here hx rfl (hb hby d24_18) rfl rfl ?_
    refine XS.iconst X2.here hx rfl (hb hby d24_19) ?_
    refine XS.aloadN X2.here hx rfl (hb hby d24_20) rfl rfl ?_
    refine XS.iconst X2.here hx rfl (hb hby d24_21) ?_
    refine XS.aloadN X2.here hx rfl (hb hby d24_22) rfl rfl ?_
    refine X2.arraylength hx (by rw [e2]; exact Ar4.1) (State.isArrayOf_alike hZ.alike Ar4.2.1) (g := (mkF m 23 #[rv u1, iv (Int32.ofNat (2 * (2 * u2 + 2))), rv e1x] [(.ref u1), (.int 0), (.ref e1x), (.int 0), (.ref u1)])) rfl rfl (hb hby d24_23) _ ?_
    rw [len_of S4 N4z]
    refine XS.iloadN X2.here hx rfl (hb hby d24_24) rfl ?_
    refine st5 _ ?_
    refine st6 _ ?_
    refine XS.aloadN X6.here hx rfl (hb hby d24_31) rfl rfl ?_
    exact own_retR X6 hx hre rfl rfl (hb hby d24_32) hr
  · show Q24_23 Z u1 u2 u3 u4 h0 n0 _ T6.heap _
    rw [e6]
    exact ⟨e1x, e2x, sz0_b10, rfl, N6, K6, V6, F2_7⟩
def Q20_24 (Z : State) (u1 : Addr) (u2 : Nat) (u3 : Addr) (u4 : ClassId) (u5 : Nat) (u6 : List Int32) (h0 : Heap) (n0 : Nat) (v : Option Value) (h : Heap) (L : List Loc) : Prop := ∃ e1x : Addr, ∃ e2x : ClassId, h0.size ≤ e1x ∧ v = none ∧ Fr n0 L ∧ Keep h0 h [u1] ∧ Fld Z h u1 sq2 "value" "[B" (.ref e1x) ∧ Fld Z h u1 sq2 "coder" "B" (.int 1) ∧ Exa Z h u1 sq4 ∧ Fld Z h u1 sq2 "count" "I" (.int (Int32.ofNat u6.length)) ∧ Fld Z h u1 sq2 "maybeLatin1" "Z" (.int 0) ∧ Arv Z h e1x e2x .byte (Int32.ofNat (2 * (2 * u5 + 2))) (own_wd u6) (.int (0 : Int32)) ∧ Exa Z h e1x "[B"
theorem rm20_24 (l : Launch) (Z : State) (a0 : Array Value) (hw : HW Z a0) (ws : List Jvm.Cond) (u1 : Addr) (u2 : Nat) (u3 : Addr) (u4 : ClassId) (u5 : Nat) (u6 : List Int32) (h0 : Heap) (n0 : Nat) (Z0 : n0 ≤ h0.size) (P1 : Fld Z h0 u1 sq2 "value" "[B" (.ref u3)) (P2 : Arv Z h0 u3 u4 .byte (Int32.ofNat (2 * u5)) (own_wd u6) (.int (0 : Int32))) (P3 : Fld Z h0 u1 sq2 "coder" "B" (.int 1)) (P4 : u5 < 100) (P5 : (0 : Int32) < ((Int32.ofNat u2) - (Int32.ofNat u5))) (P6 : Exa Z h0 u1 sq4) (P7 : ((Int32.ofNat (2 * u2)) - (Int32.ofNat (2 * u5))) < (Int32.ofNat (2 * u5 + 4))) (P8 : (0 : Int32) < (Int32.ofNat (2 * u5 + (2 * u5 + 4)))) (P9 : ¬ ((2147483639 : Int32) < (Int32.ofNat (2 * u5 + (2 * u5 + 4))))) (P10 : ¬ ((Int32.ofNat (2 * u5 + (2 * u5 + 4))) = (2147483647 : Int32))) (P11 : (2 * u5 + 2) < 100) (P12 : ¬ ((Int32.ofNat (2 * (2 * u5 + 2))) = (Int32.ofNat (2 * u5)))) (P13 : ¬ (Int32.ofNat (2 * (2 * u5 + 2))) < 0) (P14 : ((Int32.ofNat (2 * (2 * u5 + 2)))).toNatClampNeg ≤ 24) (P15 : ¬ ((Int32.ofNat (2 * (2 * u5 + 2))) < (Int32.ofNat (2 * u5)))) (P16 : ((0 : Int32)).toNatClampNeg = ([] : List Value).length ∧ ¬ (0 : Int32) < 0) (P17 : ¬ (Int32.ofNat (2 * u5)) < 0 ∧ (own_wd u6).length ≤ ((Int32.ofNat (2 * u5))).toNatClampNeg ∧ ((Int32.ofNat (2 * u5))).toNatClampNeg ≤ ((Int32.ofNat (2 * u5))).toNatClampNeg ∧ ([] : List Value).length + ((Int32.ofNat (2 * u5))).toNatClampNeg ≤ ((Int32.ofNat (2 * (2 * u5 + 2)))).toNatClampNeg) (P18 : Fld Z h0 u1 sq2 "count" "I" (.int (Int32.ofNat u6.length))) (P19 : Fld Z h0 u1 sq2 "maybeLatin1" "Z" (.int 0)) (P20 : n0 ≤ u1) (P21 : u1 < h0.size) :
    MF l Z mq6 (Jvm.Cond.code mq6 jdk_68_method_9_code 3 none) ws rq18 #[(.ref u1), (.int (Int32.ofNat u2))] h0 (Q20_24 Z u1 u2 u3 u4 u5 u6 h0 n0) := by
  refine own_enter (plainFor_of_name pn_4) fun p e s m below meth c s₁ X0 hx hby hml hown hnm hZ e0 hre hlk => ?_
  have N0 := Fr.nil n0
  have pre0 : ∀ t, SF p e below s₁ (mkF m 0 #[rv u1, iv (Int32.ofNat u2), .unset] []) t → SF p e below s₁ (entryFrame m #[(.ref u1), (.int (Int32.ofNat u2))] 3) t := fun t k => castTop (ef_11 m u1 (Int32.ofNat u2)) k
  obtain ⟨T1, X1, e1, st1⟩ := getF X0 hx hZ hown (host := "") (Or.inl (tw hw 62 rfl)) Via.refl e0 P1 (g := (mkF m 1 #[rv u1, iv (Int32.ofNat u2), .unset] [(.ref u1)])) rfl rfl (hb hby d20_1)
  obtain ⟨cl2, Ar2, q2, S2, N2z, H2, G2⟩ := id P2
  obtain ⟨T3, X3, e3, st3⟩ := getF X1 hx hZ hown (host := "") (Or.inl (tw hw 64 rfl)) Via.refl e1 P3 (g := (mkF m 6 #[rv u1, iv (Int32.ofNat u2), .unset] [(.ref u1), (.int (Int32.ofNat (2 * u5)))])) rfl rfl (hb hby d20_6)
  obtain ⟨T4, X4, e4, st4⟩ := getF X3 hx hZ hown (host := "") (Or.inl (tw hw 62 rfl)) Via.refl e3 P1 (g := (mkF m 19 #[rv u1, iv (Int32.ofNat u2), iv (Int32.ofNat u5)] [(.ref u1), (.ref u1)])) rfl rfl (hb hby d20_19)
  obtain ⟨cq5, q5, q5'⟩ := P6.cell
  obtain ⟨_, _, ⟨T5, L5, k5x, n5⟩, -, X5, ⟨Lc5, hQ5, l5, y5, z5⟩, st5⟩ := X4.privateBack hx (y := mq12) hown (mvT hZ (tw hw 109 rfl)) (mvT hZ (tw hw 110 rfl)) (own_selR hZ (tw hw 112 rfl) (tw hw 111 rfl) (tw hw 110 rfl) (by decide)) (Cond.privateMethod_at (mvP hZ (tw hw 111 rfl) (args := #[]))) (mvT hZ (tw hw 113 rfl)) (by decide) (backOf (W := 2) (rm21_21 l Z a0 hw [] u1 u2 u3 u4 u5 u6 h0 n0 Z0 P1 P2 P3 P7 P8 P9 P10 P11) hZ (tw hw 113 rfl) (tw hw 58 rfl) (by decide) (by decide)) (g := (mkF m 24 #[rv u1, iv (Int32.ofNat u2), iv (Int32.ofNat u5)] [(.int (Int32.ofNat u2)), (.ref u1), (.ref u3), (.ref u1)])) rfl (by rw [hml]; rfl) (Steps.refl _) (a := u1) (by rw [e4]; exact q5) q5' (argsL := [(.int (Int32.ofNat u2))]) (rest := [(.ref u3), (.ref u1)]) (lenOf pd_7 rfl) rfl (Nat.le_of_eq rfl) (hb hby d20_24) (fun _ _ => ⟨rfl, e4, (by decide : 0 + 0 ≤ _), (by decide : 0 + 0 ≤ _)⟩)
  dsimp only [Pt.U, Pt.locs, Pt.cells, Pt.slots] at X5 l5 y5 z5 st5 hQ5
  subst l5 y5 z5
  obtain ⟨rfl, N5q, e5⟩ := hQ5
  have N5 := Fr.app N0 N5q
  obtain ⟨T6, X6, e6, st6⟩ := getF X5 hx hZ hown (host := "") (Or.inl (tw hw 64 rfl)) Via.refl e5 P3 (g := (mkF m 28 #[rv u1, iv (Int32.ofNat u2), iv (Int32.ofNat u5)] [(.ref u1), (.int (Int32.ofNat (2 * u5 + 2))), (.ref u3), (.ref u1)])) rfl rfl (hb hby d20_28)
  obtain ⟨_, _, ⟨T7, L7, k7x, n7⟩, -, X7, ⟨Lc7, hQ7, l7, y7, z7⟩, st7⟩ := Jvm.LawKit.callS X6 hx (y := mq49) hown (mvT hZ (tw hw 124 rfl)) (mvT hZ (tw hw 125 rfl)) (mvT hZ (tw hw 126 rfl)) (mvT hZ (tw hw 127 rfl)) (by decide) (backOf (W := 1) (rm24_23 l Z a0 hw [] u3 u5 u4 u6 h0 n0 Z0 P2 P12 P13 P14 P15 P16 P17) hZ (tw hw 127 rfl) (tw hw 126 rfl) (by decide) (by decide)) (g := (mkF m 32 #[rv u1, iv (Int32.ofNat u2), iv (Int32.ofNat u5)] [(.int (Int32.ofNat (2 * (2 * u5 + 2)))), (.ref u3), (.ref u1)])) rfl (by rw [hml]; rfl) (argsL := [(.ref u3), (.int (Int32.ofNat (2 * (2 * u5 + 2))))]) (rest := [(.ref u1)]) (lenOf pd_10 rfl) rfl (Nat.le_of_eq rfl) (hb hby d20_32) (fun _ _ => ⟨rfl, e6, (by decide : 0 + 1 ≤ _), (by decide : 0 + 24 ≤ _)⟩)
  dsimp only [Pt.U, Pt.locs, Pt.cells, Pt.slots] at X7 l7 y7 z7 st7 hQ7
  subst l7 y7 z7
  obtain ⟨e1x, e2x, bz_b11, rfl, N7q, K7c, Fq7_0, Fq7_1⟩ := hQ7
  have K7 : Keep h0 T7.heap [u1] := (Keep.refl h0 [u1]).trans K7c all0
  have N7 := Fr.app N5 N7q
  have F1_8 : Fld Z T7.heap u1 sq2 "count" "I" (.int (Int32.ofNat u6.length)) := P18.keep K7c nin0
  have F1_9 : Fld Z T7.heap u1 sq2 "maybeLatin1" "Z" (.int 0) := P19.keep K7c nin0
  have F1_10 : Exa Z T7.heap u1 sq4 := P6.keep K7c
  have F1_11 : Fld Z T7.heap u1 sq2 "value" "[B" (.ref u3) := P1.keep K7c nin0
  have F1_12 : Fld Z T7.heap u1 sq2 "coder" "B" (.int 1) := P3.keep K7c nin0
  obtain ⟨T13, h13, X13, e13, W13, st13⟩ := putF X7 hx hZ hown (host := "") (Or.inl (tw hw 62 rfl)) Via.refl rfl F1_11 F1_10 (Or.inl (tw hw 63 rfl)) (tw hw 39 rfl) (ty := (.array .byte)) (by decide) rfl rfl (g := (mkF m 35 #[rv u1, iv (Int32.ofNat u2), iv (Int32.ofNat u5)] [(.ref e1x), (.ref u1)])) rfl rfl (hb hby d20_35)
  have K13 : Keep h0 h13 [u1] := K7.wr W13 (Or.inl (List.mem_of_getElem? (i := 0) rfl))
  have N13 := Fr.snoc X13 N7 P20
  have Fw13 : Fld Z h13 u1 sq2 "value" "[B" (.ref e1x) := F1_11.same W13
  have F2_14 : Fld Z h13 u1 sq2 "coder" "B" (.int 1) := F1_12.other W13 (Or.inr (slot_ne (Or.inl (tw hw 65 rfl)) (Or.inl (tw hw 63 rfl)) (by decide) (t := .byte) (t' := (.array .byte)) (by decide) (by decide)))
  have F2_15 : Exa Z h13 u1 sq4 := F1_10.wr W13
  have F2_16 : Fld Z h13 u1 sq2 "count" "I" (.int (Int32.ofNat u6.length)) := F1_8.other W13 (Or.inr (slot_ne (Or.inl (tw hw 103 rfl)) (Or.inl (tw hw 63 rfl)) (by decide) (t := .int) (t' := (.array .byte)) (by decide) (by decide)))
  have F2_17 : Fld Z h13 u1 sq2 "maybeLatin1" "Z" (.int 0) := F1_9.other W13 (Or.inr (slot_ne (Or.inl (tw hw 275 rfl)) (Or.inl (tw hw 63 rfl)) (by decide) (t := .boolean) (t' := (.array .byte)) (by decide) (by decide)))
  have F2_18 : Arv Z h13 e1x e2x .byte (Int32.ofNat (2 * (2 * u5 + 2))) (own_wd u6) (.int (0 : Int32)) := Fq7_0.other W13 (Ne.symm (Nat.ne_of_lt (Nat.lt_of_lt_of_le P21 bz_b11)))
  have F2_19 : Exa Z h13 e1x "[B" := Fq7_1.wr W13
  have sz0_b11 : h0.size ≤ e1x := Nat.le_trans (Keep.refl h0 [u1]).1 bz_b11
  obtain ⟨fs, hr, hrun, hended, hW, hsame⟩ := X13.leave (v := none) (fun _ => rfl)
  refine ⟨_, _, pre0 _ ?_, hrun, hended, _, _, rfl, ?_, ⟨_, rfl⟩, hW, hsame.mono (by decide) (by decide)⟩
  · show SF p e below s₁ (mkF m 0 #[rv u1, iv (Int32.ofNat u2), .unset] []) _
    refine XS.aloadN X0.here hx rfl (hb hby d20_0) rfl rfl ?_
    refine st1 _ ?_
    refine X1.arraylength hx (by rw [e1]; exact Ar2.1) (State.isArrayOf_alike hZ.alike Ar2.2.1) (g := (mkF m 4 #[rv u1, iv (Int32.ofNat u2), .unset] [(.ref u3)])) rfl rfl (hb hby d20_4) _ ?_
    rw [len_of S2 N2z]
    refine XS.aloadN X1.here hx rfl (hb hby d20_5) rfl rfl ?_
    refine st3 _ ?_
    refine XS.ishr X3.here hx rfl (hb hby d20_9) rfl ?_
    show SF p e below T3 (mkF m 10 #[rv u1, iv (Int32.ofNat u2), .unset] [(.int ((Int32.ofNat (2 * u5)) >>> ((1 : Int32) &&& 31)))]) _
    rw [(show ((Int32.ofNat (2 * u5)) >>> ((1 : Int32) &&& 31)) = (Int32.ofNat u5) from StrChars.shr1 (own_b31 P4))]
    refine XS.istoreN X3.here hx rfl (hb hby d20_10) rfl (l' := #[rv u1, iv (Int32.ofNat u2), iv (Int32.ofNat u5)]) rfl ?_
    refine XS.iloadN X3.here hx rfl (hb hby d20_11) rfl ?_
    refine XS.iloadN X3.here hx rfl (hb hby d20_12) rfl ?_
    refine XS.isub X3.here hx rfl (hb hby d20_13) rfl ?_
    refine XS.ifNo X3.here hx rfl (hb hby d20_14) rfl ((if0 _ _).trans (tlt P5).2.2.2) ?_
    refine XS.aloadN X3.here hx rfl (hb hby d20_17) rfl rfl ?_
    refine XS.aloadN X3.here hx rfl (hb hby d20_18) rfl rfl ?_
    refine st4 _ ?_
    refine XS.aloadN X4.here hx rfl (hb hby d20_22) rfl rfl ?_
    refine XS.iloadN X4.here hx rfl (hb hby d20_23) rfl ?_
    refine st5.trans ?_
    refine XS.aloadN X5.here hx rfl (hb hby d20_27) rfl rfl ?_
    refine st6 _ ?_
    refine XS.ishl X6.here hx rfl (hb hby d20_31) rfl ?_
    show SF p e below T6 (mkF m 32 #[rv u1, iv (Int32.ofNat u2), iv (Int32.ofNat u5)] [(.int ((Int32.ofNat (2 * u5 + 2)) <<< ((1 : Int32) &&& 31))), (.ref u3), (.ref u1)]) _
    rw [(show ((Int32.ofNat (2 * u5 + 2)) <<< ((1 : Int32) &&& 31)) = (Int32.ofNat (2 * (2 * u5 + 2))) from own_shl1 _)]
    refine st7 _ ?_
    refine st13 _ ?_
    exact X13.returnOut hx hre (hb hby d20_38) hr
  · show Q20_24 Z u1 u2 u3 u4 u5 u6 h0 n0 _ T13.heap _
    rw [e13]
    exact ⟨e1x, e2x, sz0_b11, rfl, N13, K13, Fw13, F2_14, F2_15, F2_16, F2_17, F2_18, F2_19⟩
def QE1 (Z : State) (sba ta : Addr) (csa : List Int32) (mia : Nat) (h0 : Heap) (n0 : Nat) (v : Option Value) (h : Heap) (L : List Loc) : Prop := ∃ (t' : Addr) (k' : ClassId) (n' : Nat), (t' = ta ∨ h0.size ≤ t') ∧ t' ≠ sba ∧ n0 ≤ t' ∧ mia ≤ n' ∧ n' < 13 ∧ v = none ∧ Fr n0 L ∧ Keep h0 h [sba] ∧ Exa Z h sba sq4 ∧ Fld Z h sba sq2 "value" "[B" (.ref t') ∧ Fld Z h sba sq2 "coder" "B" (.int 1) ∧ Fld Z h sba sq2 "count" "I" (.int (Int32.ofNat csa.length)) ∧ Fld Z h sba sq2 "maybeLatin1" "Z" (.int 0) ∧ Exa Z h t' "[B" ∧ Arv Z h t' k' .byte (Int32.ofNat (2 * n')) (own_wd csa) (.int (0 : Int32))
theorem ens1 (l : Launch) (Z : State) (a0 : Array Value) (hw : HW Z a0) (ws : List Jvm.Cond) (GC : Int32) (GF : Value) (sba ta : Addr) (kta : ClassId) (nna mia : Nat) (csa : List Int32) (h0 : Heap) (n0 : Nat) (Z0 : n0 ≤ h0.size) (S : St Z GC GF) (O : Old Z n0 h0) (Eb : Exa Z h0 sba sq4) (Fv : Fld Z h0 sba sq2 "value" "[B" (.ref ta)) (Fc : Fld Z h0 sba sq2 "coder" "B" (.int 1)) (Fn : Fld Z h0 sba sq2 "count" "I" (.int (Int32.ofNat csa.length))) (Fm : Fld Z h0 sba sq2 "maybeLatin1" "Z" (.int 0)) (Et : Exa Z h0 ta "[B") (At : Arv Z h0 ta kta .byte (Int32.ofNat (2 * nna)) (own_wd csa) (.int (0 : Int32))) (ne : ta ≠ sba) (gs : n0 ≤ sba) (gt : n0 ≤ ta) (hk : csa.length ≤ nna) (hn : nna < 13) (hk7 : csa.length < 7) (hm : mia < 7) (hm2 : mia ≤ nna + 2) (hn0 : 0 < nna) :
    MF l Z mq6 (Jvm.Cond.code mq6 jdk_68_method_9_code 3 none) ws rq18 #[(.ref sba), (.int (Int32.ofNat mia))] h0 (QE1 Z sba ta csa mia h0 n0) := by
  by_cases hg : mia ≤ nna
  · refine own_mf (rm20_18 l Z a0 hw ws sba mia ta kta nna csa h0 n0 Z0 Fv At Fc (by omega) ((own_all3 7 13 7 (C := fun q nna mia => (q ≤ nna ∧ mia ≤ nna + 2 ∧ 0 < nna ∧ mia ≤ nna)) (P := fun q nna mia => ¬ ((0 : Int32) < ((Int32.ofNat mia) - (Int32.ofNat nna)))) (by decide +kernel) csa.length hk7 nna hn mia hm ⟨hk, hm2, hn0, hg⟩))) fun v h L q => ?_
    obtain ⟨q1, q2, rfl⟩ := q
    exact ⟨ta, kta, nna, Or.inl rfl, ne, gt, hg, hn, q1, q2, Keep.refl _ _, Eb, Fv, Fc, Fn, Fm, Et, At⟩
  · refine own_mf (rm20_24 l Z a0 hw ws sba mia ta kta nna csa h0 n0 Z0 Fv At Fc (by omega) ((own_all3 7 13 7 (C := fun q nna mia => (q ≤ nna ∧ mia ≤ nna + 2 ∧ 0 < nna ∧ ¬ mia ≤ nna)) (P := fun q nna mia => (0 : Int32) < ((Int32.ofNat mia) - (Int32.ofNat nna))) (by decide +kernel) csa.length hk7 nna hn mia hm ⟨hk, hm2, hn0, hg⟩)) Eb ((own_all3 7 13 7 (C := fun q nna mia => (q ≤ nna ∧ mia ≤ nna + 2 ∧ 0 < nna ∧ ¬ mia ≤ nna)) (P := fun q nna mia => ((Int32.ofNat (2 * mia)) - (Int32.ofNat (2 * nna))) < (Int32.ofNat (2 * nna + 4))) (by decide +kernel) csa.length hk7 nna hn mia hm ⟨hk, hm2, hn0, hg⟩)) ((own_all3 7 13 7 (C := fun q nna mia => (q ≤ nna ∧ mia ≤ nna + 2 ∧ 0 < nna ∧ ¬ mia ≤ nna)) (P := fun q nna mia => (0 : Int32) < (Int32.ofNat (2 * nna + (2 * nna + 4)))) (by decide +kernel) csa.length hk7 nna hn mia hm ⟨hk, hm2, hn0, hg⟩)) ((own_all3 7 13 7 (C := fun q nna mia => (q ≤ nna ∧ mia ≤ nna + 2 ∧ 0 < nna ∧ ¬ mia ≤ nna)) (P := fun q nna mia => ¬ ((2147483639 : Int32) < (Int32.ofNat (2 * nna + (2 * nna + 4))))) (by decide +kernel) csa.length hk7 nna hn mia hm ⟨hk, hm2, hn0, hg⟩)) ((own_all3 7 13 7 (C := fun q nna mia => (q ≤ nna ∧ mia ≤ nna + 2 ∧ 0 < nna ∧ ¬ mia ≤ nna)) (P := fun q nna mia => ¬ ((Int32.ofNat (2 * nna + (2 * nna + 4))) = (2147483647 : Int32))) (by decide +kernel) csa.length hk7 nna hn mia hm ⟨hk, hm2, hn0, hg⟩)) (by omega) ((own_all3 7 13 7 (C := fun q nna mia => (q ≤ nna ∧ mia ≤ nna + 2 ∧ 0 < nna ∧ ¬ mia ≤ nna)) (P := fun q nna mia => ¬ ((Int32.ofNat (2 * (2 * nna + 2))) = (Int32.ofNat (2 * nna)))) (by decide +kernel) csa.length hk7 nna hn mia hm ⟨hk, hm2, hn0, hg⟩)) ((own_all3 7 13 7 (C := fun q nna mia => (q ≤ nna ∧ mia ≤ nna + 2 ∧ 0 < nna ∧ ¬ mia ≤ nna)) (P := fun q nna mia => ¬ (Int32.ofNat (2 * (2 * nna + 2))) < 0) (by decide +kernel) csa.length hk7 nna hn mia hm ⟨hk, hm2, hn0, hg⟩)) ((own_all3 7 13 7 (C := fun q nna mia => (q ≤ nna ∧ mia ≤ nna + 2 ∧ 0 < nna ∧ ¬ mia ≤ nna)) (P := fun q nna mia => ((Int32.ofNat (2 * (2 * nna + 2)))).toNatClampNeg ≤ 24) (by decide +kernel) csa.length hk7 nna hn mia hm ⟨hk, hm2, hn0, hg⟩)) ((own_all3 7 13 7 (C := fun q nna mia => (q ≤ nna ∧ mia ≤ nna + 2 ∧ 0 < nna ∧ ¬ mia ≤ nna)) (P := fun q nna mia => ¬ ((Int32.ofNat (2 * (2 * nna + 2))) < (Int32.ofNat (2 * nna)))) (by decide +kernel) csa.length hk7 nna hn mia hm ⟨hk, hm2, hn0, hg⟩)) ((own_all3 7 13 7 (C := fun q nna mia => (q ≤ nna ∧ mia ≤ nna + 2 ∧ 0 < nna ∧ ¬ mia ≤ nna)) (P := fun q nna mia => ((0 : Int32)).toNatClampNeg = ([] : List Value).length ∧ ¬ (0 : Int32) < 0) (by decide +kernel) csa.length hk7 nna hn mia hm ⟨hk, hm2, hn0, hg⟩)) (by rw [own_wd_len]; exact (own_all3 7 13 7 (C := fun q nna mia => (q ≤ nna ∧ mia ≤ nna + 2 ∧ 0 < nna ∧ ¬ mia ≤ nna)) (P := fun q nna mia => ¬ (Int32.ofNat (2 * nna)) < 0 ∧ 2 * q ≤ ((Int32.ofNat (2 * nna))).toNatClampNeg ∧ ((Int32.ofNat (2 * nna))).toNatClampNeg ≤ ((Int32.ofNat (2 * nna))).toNatClampNeg ∧ ([] : List Value).length + ((Int32.ofNat (2 * nna))).toNatClampNeg ≤ ((Int32.ofNat (2 * (2 * nna + 2)))).toNatClampNeg) (by decide +kernel) csa.length hk7 nna hn mia hm ⟨hk, hm2, hn0, hg⟩)) Fn Fm gs Eb.lt) fun v h L q => ?_
    obtain ⟨b, k, sz, q1, q2, q3, f0, f1, f2, f3, f4, f5, f6⟩ := q
    exact ⟨b, k, 2 * nna + 2, Or.inr sz, Nat.ne_of_gt (Nat.lt_of_lt_of_le Eb.lt sz), Nat.le_trans Z0 sz, by omega, by omega, q1, q2, q3, f2, f0, f1, f3, f4, f6, f5⟩
abbrev D57 (n : Nat) (i : Instr) (k : Nat) : Prop := decode jdk_52_method_71_code n = .ok (i, k)
theorem d57_0 : D57 0 (.iload_n 1) 1 := by decide +kernel
theorem d57_1 : D57 1 (.aload_n 0) 1 := by decide +kernel
theorem d57_2 : D57 2 (.invokestatic 67) 3 := by decide +kernel
abbrev D49 (n : Nat) (i : Instr) (k : Nat) : Prop := decode jdk_52_method_91_code n = .ok (i, k)
theorem d49_0 : D49 0 (.iload_n 0) 1 := by decide +kernel
theorem d49_1 : D49 1 (.aload_n 1) 1 := by decide +kernel
theorem d49_2 : D49 2 (.invokestatic 48) 3 := by decide +kernel
def Q50_25 (Z : State) (u1 : Addr) (u2 : ClassId) (u3 : Int32) (u4 : List Value) (h0 : Heap) (n0 : Nat) (v : Option Value) (h : Heap) (L : List Loc) : Prop := v = some (.int (u3 >>> ((1 : Int32) &&& 31))) ∧ Fr n0 L ∧ h = h0
theorem rm50_25 (l : Launch) (Z : State) (a0 : Array Value) (hw : HW Z a0) (ws : List Jvm.Cond) (u1 : Addr) (u2 : ClassId) (u3 : Int32) (u4 : List Value) (h0 : Heap) (n0 : Nat) (Z0 : n0 ≤ h0.size) (P1 : Arv Z h0 u1 u2 .byte u3 u4 (.int (0 : Int32))) :
    MF l Z mq42 (Jvm.Cond.code mq42 jdk_52_method_6_code 1 (some .int)) ws rq0 #[(.ref u1)] h0 (Q50_25 Z u1 u2 u3 u4 h0 n0) := by
  refine own_enter (plainFor_of_name pn_0) fun p e s m below meth c s₁ X0 hx hby hml hown hnm hZ e0 hre hlk => ?_
  have N0 := Fr.nil n0
  have pre0 : ∀ t, SF p e below s₁ (mkF m 0 #[rv u1] []) t → SF p e below s₁ (entryFrame m #[(.ref u1)] 1) t := fun t k => castTop (ef_2 m u1) k
  obtain ⟨cl1, Ar1, q1, S1, N1z, H1, G1⟩ := id P1
  obtain ⟨fs, hr, hrun, hended, hW, hsame⟩ := X0.leave (v := some (.int (u3 >>> ((1 : Int32) &&& 31)))) (fun h => by rw [hre] at h; cases h)
  refine ⟨_, _, pre0 _ ?_, hrun, hended, _, _, rfl, ?_, ⟨_, rfl⟩, hW, hsame.mono (by decide) (by decide)⟩
  · show SF p e below s₁ (mkF m 0 #[rv u1] []) _
    refine XS.aloadN X0.here hx rfl (hb hby d50_0) rfl rfl ?_
    refine X0.arraylength hx (by rw [e0]; exact Ar1.1) (State.isArrayOf_alike hZ.alike Ar1.2.1) (g := (mkF m 1 #[rv u1] [(.ref u1)])) rfl rfl (hb hby d50_1) _ ?_
    rw [len_of S1 N1z]
    refine XS.iconst X0.here hx rfl (hb hby d50_2) ?_
    refine XS.ishr X0.here hx rfl (hb hby d50_3) rfl ?_
    exact retI X0 hx hre (hb hby d50_4) hr
  · show Q50_25 Z u1 u2 u3 u4 h0 n0 _ s₁.heap _
    rw [e0]
    exact ⟨rfl, N0, rfl⟩
theorem d49_5 : D49 5 (.invokestatic 414) 3 := by decide +kernel
abbrev D16 (n : Nat) (i : Instr) (k : Nat) : Prop := decode jdk_42_method_155_code n = .ok (i, k)
theorem d16_0 : D16 0 (.iload_n 0) 1 := by decide +kernel
theorem d16_1 : D16 1 (.iload_n 1) 1 := by decide +kernel
theorem d16_2 : D16 2 (.getstatic 1053) 3 := by decide +kernel
theorem d16_5 : D16 5 (.invokestatic 1059) 3 := by decide +kernel
abbrev D17 (n : Nat) (i : Instr) (k : Nat) : Prop := decode jdk_41_method_11_code n = .ok (i, k)
theorem d17_0 : D17 0 (.iload_n 0) 1 := by decide +kernel
theorem d17_1 : D17 1 (.ifCond .lt 8) 3 := by decide +kernel
theorem d17_4 : D17 4 (.iload_n 0) 1 := by decide +kernel
theorem d17_5 : D17 5 (.iload_n 1) 1 := by decide +kernel
theorem d17_6 : D17 6 (.if_icmp .lt 10) 3 := by decide +kernel
theorem d17_16 : D17 16 (.iload_n 0) 1 := by decide +kernel
theorem d17_17 : D17 17 (.ireturn) 1 := by decide +kernel
theorem ef_17 (m : MethodId) (x0 : Int32) (x1 : Int32) (x2 : Value) (hx2 : x2.isRef = true) : entryFrame m #[(.int x0), (.int x1), x2] 3 = mkF m 0 #[.val (.int x0), .val (.int x1), .val x2] [] := by rcases ref_cases hx2 with h | ⟨_, h⟩ <;> subst h <;> first | (simp [entryFrame, mkF, argsToLocals, Value.category]; done) | rfl
def Q17_26 (Z : State) (u1 : Int32) (u2 : Int32) (GF : Value) (h0 : Heap) (n0 : Nat) (v : Option Value) (h : Heap) (L : List Loc) : Prop := v = some (.int u1) ∧ Fr n0 L ∧ h = h0
theorem rm17_26 (l : Launch) (Z : State) (a0 : Array Value) (hw : HW Z a0) (ws : List Jvm.Cond) (u1 : Int32) (u2 : Int32) (GF : Value) (h0 : Heap) (n0 : Nat) (Z0 : n0 ≤ h0.size) (P1 : ¬ (u1 < (0 : Int32))) (P2 : u1 < (u2 >>> ((1 : Int32) &&& 31))) (rGF : GF.isRef = true) :
    MF l Z mq54 (Jvm.Cond.code mq54 jdk_41_method_11_code 3 (some .int)) ws rq0 #[(.int u1), (.int (u2 >>> ((1 : Int32) &&& 31))), GF] h0 (Q17_26 Z u1 u2 GF h0 n0) := by
  refine own_enter (plainFor_of_name pn_1) fun p e s m below meth c s₁ X0 hx hby hml hown hnm hZ e0 hre hlk => ?_
  have N0 := Fr.nil n0
  have pre0 : ∀ t, SF p e below s₁ (mkF m 0 #[iv u1, iv (u2 >>> ((1 : Int32) &&& 31)), .val GF] []) t → SF p e below s₁ (entryFrame m #[(.int u1), (.int (u2 >>> ((1 : Int32) &&& 31))), GF] 3) t := fun t k => castTop (ef_17 m u1 (u2 >>> ((1 : Int32) &&& 31)) GF rGF) k
  obtain ⟨fs, hr, hrun, hended, hW, hsame⟩ := X0.leave (v := some (.int u1)) (fun h => by rw [hre] at h; cases h)
  refine ⟨_, _, pre0 _ ?_, hrun, hended, _, _, rfl, ?_, ⟨_, rfl⟩, hW, hsame.mono (by decide) (by decide)⟩
  · show SF p e below s₁ (mkF m 0 #[iv u1, iv (u2 >>> ((1 : Int32) &&& 31)), .val GF] []) _
    refine XS.iloadN X0.here hx rfl (hb hby d17_0) rfl ?_
    refine XS.ifNo X0.here hx rfl (hb hby d17_1) rfl ((if0 _ _).trans (flt P1).1) ?_
    refine XS.iloadN X0.here hx rfl (hb hby d17_4) rfl ?_
    refine XS.iloadN X0.here hx rfl (hb hby d17_5) rfl ?_
    refine XS.icmpYes X0.here hx rfl (pc0 := 6) (pc' := 16) rfl (hb hby d17_6) rfl (tlt P2).1 (by decide) (by decide) ?_
    refine XS.iloadN X0.here hx rfl (hb hby d17_16) rfl ?_
    exact retI X0 hx hre (hb hby d17_17) hr
  · show Q17_26 Z u1 u2 GF h0 n0 _ s₁.heap _
    rw [e0]
    exact ⟨rfl, N0, rfl⟩
theorem pd_11 : parseMethodDescriptor "(IILjava/util/function/BiFunction;)I" = some ⟨[.int, .int, (.object "java/util/function/BiFunction")], some .int⟩ := by decide +kernel
theorem d16_8 : D16 8 (.pop) 1 := by decide +kernel
theorem d16_9 : D16 9 (.return_) 1 := by decide +kernel
theorem ef_18 (m : MethodId) (x0 : Int32) (x1 : Int32) : entryFrame m #[(.int x0), (.int x1)] 2 = mkF m 0 #[.val (.int x0), .val (.int x1)] [] := by first | (simp [entryFrame, mkF, argsToLocals, Value.category]; done) | rfl
def Q16_27 (Z : State) (u1 : Int32) (u2 : Int32) (GF : Value) (h0 : Heap) (n0 : Nat) (v : Option Value) (h : Heap) (L : List Loc) : Prop := v = none ∧ Fr n0 L ∧ h = h0
theorem rm16_27 (l : Launch) (Z : State) (a0 : Array Value) (hw : HW Z a0) (ws : List Jvm.Cond) (u1 : Int32) (u2 : Int32) (GF : Value) (h0 : Heap) (n0 : Nat) (Z0 : n0 ≤ h0.size) (Sg1 : Sta Z Z.heap sq6 "SIOOBE_FORMATTER" "Ljava/util/function/BiFunction;" GF) (P2 : Old Z n0 h0) (P3 : ¬ (u1 < (0 : Int32))) (P4 : u1 < (u2 >>> ((1 : Int32) &&& 31))) (rGF : GF.isRef = true) :
    MF l Z mq22 (Jvm.Cond.code mq22 jdk_42_method_155_code 2 none) ws rq4 #[(.int u1), (.int (u2 >>> ((1 : Int32) &&& 31)))] h0 (Q16_27 Z u1 u2 GF h0 n0) := by
  refine own_enter (plainFor_of_name pn_2) fun p e s m below meth c s₁ X0 hx hby hml hown hnm hZ e0 hre hlk => ?_
  have N0 := Fr.nil n0
  have pre0 : ∀ t, SF p e below s₁ (mkF m 0 #[iv u1, iv (u2 >>> ((1 : Int32) &&& 31))] []) t → SF p e below s₁ (entryFrame m #[(.int u1), (.int (u2 >>> ((1 : Int32) &&& 31)))] 2) t := fun t k => castTop (ef_18 m u1 (u2 >>> ((1 : Int32) &&& 31))) k
  obtain ⟨T1, X1, e1, st1⟩ := getS2 X0 hx hZ hown (host := "") (Or.inl (tw hw 83 rfl)) Via.refl e0 (Sg1.ext P2.2) (g := (mkF m 2 #[iv u1, iv (u2 >>> ((1 : Int32) &&& 31))] [(.int (u2 >>> ((1 : Int32) &&& 31))), (.int u1)])) rfl (hb hby d16_2)
  obtain ⟨_, _, ⟨T2, L2, k2x, n2⟩, -, X2, ⟨Lc2, hQ2, l2, y2, z2⟩, st2⟩ := Jvm.LawKit.callS X1 hx (y := mq54) hown (mvT hZ (tw hw 85 rfl)) (mvT hZ (tw hw 86 rfl)) (mvT hZ (tw hw 84 rfl)) (mvT hZ (tw hw 87 rfl)) (by decide) (backOf (W := 0) (rm17_26 l Z a0 hw [] u1 u2 GF h0 n0 Z0 P3 P4 rGF) hZ (tw hw 87 rfl) (tw hw 84 rfl) (by decide) (by decide)) (g := (mkF m 5 #[iv u1, iv (u2 >>> ((1 : Int32) &&& 31))] [GF, (.int (u2 >>> ((1 : Int32) &&& 31))), (.int u1)])) rfl (by rw [hml]; rfl) (argsL := [(.int u1), (.int (u2 >>> ((1 : Int32) &&& 31))), GF]) (rest := []) (lenOf pd_11 rfl) rfl (Nat.le_of_eq rfl) (hb hby d16_5) (fun _ _ => ⟨rfl, e1, (by decide : 0 + 0 ≤ _), (by decide : 0 + 0 ≤ _)⟩)
  dsimp only [Pt.U, Pt.locs, Pt.cells, Pt.slots] at X2 l2 y2 z2 st2 hQ2
  subst l2 y2 z2
  obtain ⟨rfl, N2q, e2⟩ := hQ2
  have N2 := Fr.app N0 N2q
  obtain ⟨fs, hr, hrun, hended, hW, hsame⟩ := X2.leave (v := none) (fun _ => rfl)
  refine ⟨_, _, pre0 _ ?_, hrun, hended, _, _, rfl, ?_, ⟨_, rfl⟩, hW, hsame.mono (by decide) (by decide)⟩
  · show SF p e below s₁ (mkF m 0 #[iv u1, iv (u2 >>> ((1 : Int32) &&& 31))] []) _
    refine XS.iloadN X0.here hx rfl (hb hby d16_0) rfl ?_
    refine XS.iloadN X0.here hx rfl (hb hby d16_1) rfl ?_
    refine st1 _ ?_
    refine st2 _ ?_
    refine XS.pop X2.here hx rfl (hb hby d16_8) rfl rfl ?_
    exact X2.returnOut hx hre (hb hby d16_9) hr
  · show Q16_27 Z u1 u2 GF h0 n0 _ T2.heap _
    rw [e2]
    exact ⟨rfl, N2, rfl⟩
theorem pd_12 : parseMethodDescriptor "(II)V" = some ⟨[.int, .int], none⟩ := by decide +kernel
theorem d49_8 : D49 8 (.return_) 1 := by decide +kernel
theorem ef_19 (m : MethodId) (x0 : Int32) (x1 : Addr) : entryFrame m #[(.int x0), (.ref x1)] 2 = mkF m 0 #[.val (.int x0), .val (.ref x1)] [] := by first | (simp [entryFrame, mkF, argsToLocals, Value.category]; done) | rfl
def Q49_28 (Z : State) (u1 : Int32) (u2 : Addr) (u3 : ClassId) (u4 : Int32) (u5 : List Value) (GF : Value) (h0 : Heap) (n0 : Nat) (v : Option Value) (h : Heap) (L : List Loc) : Prop := v = none ∧ Fr n0 L ∧ h = h0
theorem rm49_28 (l : Launch) (Z : State) (a0 : Array Value) (hw : HW Z a0) (ws : List Jvm.Cond) (u1 : Int32) (u2 : Addr) (u3 : ClassId) (u4 : Int32) (u5 : List Value) (GF : Value) (h0 : Heap) (n0 : Nat) (Z0 : n0 ≤ h0.size) (P1 : Arv Z h0 u2 u3 .byte u4 u5 (.int (0 : Int32))) (Sg1 : Sta Z Z.heap sq6 "SIOOBE_FORMATTER" "Ljava/util/function/BiFunction;" GF) (P3 : Old Z n0 h0) (P4 : ¬ (u1 < (0 : Int32))) (P5 : u1 < (u4 >>> ((1 : Int32) &&& 31))) (rGF : GF.isRef = true) :
    MF l Z mq36 (Jvm.Cond.code mq36 jdk_52_method_91_code 2 none) ws rq8 #[(.int u1), (.ref u2)] h0 (Q49_28 Z u1 u2 u3 u4 u5 GF h0 n0) := by
  refine own_enter (plainFor_of_name pn_0) fun p e s m below meth c s₁ X0 hx hby hml hown hnm hZ e0 hre hlk => ?_
  have N0 := Fr.nil n0
  have pre0 : ∀ t, SF p e below s₁ (mkF m 0 #[iv u1, rv u2] []) t → SF p e below s₁ (entryFrame m #[(.int u1), (.ref u2)] 2) t := fun t k => castTop (ef_19 m u1 u2) k
  obtain ⟨_, _, ⟨T1, L1, k1x, n1⟩, -, X1, ⟨Lc1, hQ1, l1, y1, z1⟩, st1⟩ := Jvm.LawKit.callS X0 hx (y := mq42) hown (mvT hZ (tw hw 246 rfl)) (mvT hZ (tw hw 247 rfl)) (mvT hZ (tw hw 21 rfl)) (mvT hZ (tw hw 248 rfl)) (by decide) (backOf (W := 1) (rm50_25 l Z a0 hw [] u2 u3 u4 u5 h0 n0 Z0 P1) hZ (tw hw 248 rfl) (tw hw 21 rfl) (by decide) (by decide)) (g := (mkF m 2 #[iv u1, rv u2] [(.ref u2), (.int u1)])) rfl (by rw [hml]; rfl) (argsL := [(.ref u2)]) (rest := [(.int u1)]) (lenOf pd_1 rfl) rfl (Nat.le_of_eq rfl) (hb hby d49_2) (fun _ _ => ⟨rfl, e0, (by decide : 0 + 0 ≤ _), (by decide : 0 + 0 ≤ _)⟩)
  dsimp only [Pt.U, Pt.locs, Pt.cells, Pt.slots] at X1 l1 y1 z1 st1 hQ1
  subst l1 y1 z1
  obtain ⟨rfl, N1q, e1⟩ := hQ1
  have N1 := Fr.app N0 N1q
  obtain ⟨_, _, ⟨T2, L2, k2x, n2⟩, -, X2, ⟨Lc2, hQ2, l2, y2, z2⟩, st2⟩ := Jvm.LawKit.callS X1 hx (y := mq22) hown (mvT hZ (tw hw 249 rfl)) (mvT hZ (tw hw 81 rfl)) (mvT hZ (tw hw 6 rfl)) (mvT hZ (tw hw 82 rfl)) (by decide) (backOf (W := 0) (rm16_27 l Z a0 hw [] u1 u4 GF h0 n0 Z0 Sg1 P3 P4 P5 rGF) hZ (tw hw 82 rfl) (tw hw 6 rfl) (by decide) (by decide)) (g := (mkF m 5 #[iv u1, rv u2] [(.int (u4 >>> ((1 : Int32) &&& 31))), (.int u1)])) rfl (by rw [hml]; rfl) (argsL := [(.int u1), (.int (u4 >>> ((1 : Int32) &&& 31)))]) (rest := []) (lenOf pd_12 rfl) rfl (Nat.le_of_eq rfl) (hb hby d49_5) (fun _ _ => ⟨rfl, e1, (by decide : 0 + 0 ≤ _), (by decide : 0 + 0 ≤ _)⟩)
  dsimp only [Pt.U, Pt.locs, Pt.cells, Pt.slots] at X2 l2 y2 z2 st2 hQ2
  subst l2 y2 z2
  obtain ⟨rfl, N2q, e2⟩ := hQ2
  have N2 := Fr.app N1 N2q
  obtain ⟨fs, hr, hrun, hended, hW, hsame⟩ := X2.leave (v := none) (fun _ => rfl)
  refine ⟨_, _, pre0 _ ?_, hrun, hended, _, _, rfl, ?_, ⟨_, rfl⟩, hW, hsame.mono (by decide) (by decide)⟩
  · show SF p e below s₁ (mkF m 0 #[iv u1, rv u2] []) _
    refine XS.iloadN X0.here hx rfl (hb hby d49_0) rfl ?_
    refine XS.aloadN X0.here hx rfl (hb hby d49_1) rfl rfl ?_
    refine st1 _ ?_
    refine st2 _ ?_
    exact X2.returnOut hx hre (hb hby d49_8) hr
  · show Q49_28 Z u1 u2 u3 u4 u5 GF h0 n0 _ T2.heap _
    rw [e2]
    exact ⟨rfl, N2, rfl⟩
theorem pd_13 : parseMethodDescriptor "(I[B)V" = some ⟨[.int, (.array .byte)], none⟩ := by decide +kernel
theorem d57_5 : D57 5 (.aload_n 0) 1 := by decide +kernel
theorem d57_6 : D57 6 (.iload_n 1) 1 := by decide +kernel
theorem d57_7 : D57 7 (.iload_n 2) 1 := by decide +kernel
theorem d57_8 : D57 8 (.invokestatic 111) 3 := by decide +kernel
theorem d57_11 : D57 11 (.return_) 1 := by decide +kernel
theorem ef_20 (m : MethodId) (x0 : Addr) (x1 : Int32) (x2 : Int32) : entryFrame m #[(.ref x0), (.int x1), (.int x2)] 3 = mkF m 0 #[.val (.ref x0), .val (.int x1), .val (.int x2)] [] := by first | (simp [entryFrame, mkF, argsToLocals, Value.category]; done) | rfl
def Q57_29 (Z : State) (u1 : Addr) (u2 : Int32) (u3 : Int32) (u4 : ClassId) (u5 : Int32) (u6 : List Value) (GF : Value) (h0 : Heap) (n0 : Nat) (v : Option Value) (h : Heap) (L : List Loc) : Prop := v = none ∧ Fr n0 L ∧ Keep h0 h [u1] ∧ Exa Z h u1 "[B" ∧ Arv Z h u1 u4 .byte u5 ((u6 ++ [(Value.int (nar .byte ((u3 >>> ((0 : Int32) &&& 31)).toInt8.toInt32)))]) ++ [(Value.int (nar .byte ((u3 >>> ((8 : Int32) &&& 31)).toInt8.toInt32)))]) (.int (0 : Int32))
theorem rm57_29 (l : Launch) (Z : State) (a0 : Array Value) (hw : HW Z a0) (ws : List Jvm.Cond) (u1 : Addr) (u2 : Int32) (u3 : Int32) (u4 : ClassId) (u5 : Int32) (u6 : List Value) (GF : Value) (h0 : Heap) (n0 : Nat) (Z0 : n0 ≤ h0.size) (P1 : Arv Z h0 u1 u4 .byte u5 u6 (.int (0 : Int32))) (Sg1 : Sta Z Z.heap sq6 "SIOOBE_FORMATTER" "Ljava/util/function/BiFunction;" GF) (P3 : Old Z n0 h0) (P4 : ¬ (u2 < (0 : Int32))) (P5 : u2 < (u5 >>> ((1 : Int32) &&& 31))) (rGF : GF.isRef = true) (P7 : Exa Z h0 u1 "[B") (Sg4 : Sta Z Z.heap sq5 "$assertionsDisabled" "Z" (.int 1)) (Sg5 : Sta Z Z.heap sq5 "HI_BYTE_SHIFT" "I" (.int 0)) (P10 : ¬ (u2 <<< ((1 : Int32) &&& 31)) < 0 ∧ (u2 <<< ((1 : Int32) &&& 31)) < u5) (P11 : n0 ≤ u1) (P12 : ((u2 <<< ((1 : Int32) &&& 31))).toNatClampNeg = u6.length) (Sg6 : Sta Z Z.heap sq5 "LO_BYTE_SHIFT" "I" (.int 8)) (P14 : ¬ ((u2 <<< ((1 : Int32) &&& 31)) + (1 : Int32)) < 0 ∧ ((u2 <<< ((1 : Int32) &&& 31)) + (1 : Int32)) < u5) (P15 : (((u2 <<< ((1 : Int32) &&& 31)) + (1 : Int32))).toNatClampNeg = (u6 ++ [(Value.int (nar .byte ((u3 >>> ((0 : Int32) &&& 31)).toInt8.toInt32)))]).length) :
    MF l Z mq46 (Jvm.Cond.code mq46 jdk_52_method_71_code 3 none) ws rq11 #[(.ref u1), (.int u2), (.int u3)] h0 (Q57_29 Z u1 u2 u3 u4 u5 u6 GF h0 n0) := by
  refine own_enter (plainFor_of_name pn_0) fun p e s m below meth c s₁ X0 hx hby hml hown hnm hZ e0 hre hlk => ?_
  have N0 := Fr.nil n0
  have pre0 : ∀ t, SF p e below s₁ (mkF m 0 #[rv u1, iv u2, iv u3] []) t → SF p e below s₁ (entryFrame m #[(.ref u1), (.int u2), (.int u3)] 3) t := fun t k => castTop (ef_20 m u1 u2 u3) k
  obtain ⟨_, _, ⟨T1, L1, k1x, n1⟩, -, X1, ⟨Lc1, hQ1, l1, y1, z1⟩, st1⟩ := Jvm.LawKit.callS X0 hx (y := mq36) hown (mvT hZ (tw hw 243 rfl)) (mvT hZ (tw hw 244 rfl)) (mvT hZ (tw hw 21 rfl)) (mvT hZ (tw hw 245 rfl)) (by decide) (backOf (W := 0) (rm49_28 l Z a0 hw [] u2 u1 u4 u5 u6 GF h0 n0 Z0 P1 Sg1 P3 P4 P5 rGF) hZ (tw hw 245 rfl) (tw hw 21 rfl) (by decide) (by decide)) (g := (mkF m 2 #[rv u1, iv u2, iv u3] [(.ref u1), (.int u2)])) rfl (by rw [hml]; rfl) (argsL := [(.int u2), (.ref u1)]) (rest := []) (lenOf pd_13 rfl) rfl (Nat.le_of_eq rfl) (hb hby d57_2) (fun _ _ => ⟨rfl, e0, (by decide : 0 + 0 ≤ _), (by decide : 0 + 0 ≤ _)⟩)
  dsimp only [Pt.U, Pt.locs, Pt.cells, Pt.slots] at X1 l1 y1 z1 st1 hQ1
  subst l1 y1 z1
  obtain ⟨rfl, N1q, e1⟩ := hQ1
  have N1 := Fr.app N0 N1q
  obtain ⟨_, _, ⟨T2, L2, k2x, n2⟩, -, X2, ⟨Lc2, hQ2, l2, y2, z2⟩, st2⟩ := Jvm.LawKit.callS X1 hx (y := mq45) hown (mvT hZ (tw hw 231 rfl)) (mvT hZ (tw hw 232 rfl)) (mvT hZ (tw hw 21 rfl)) (mvT hZ (tw hw 233 rfl)) (by decide) (backOf (W := 0) (rm46_1 l Z a0 hw [] u1 u2 u3 u4 u5 u6 h0 n0 Z0 Sg4 P3 Sg5 P1 P7 P10 P11 P12 Sg6 P14 P15) hZ (tw hw 233 rfl) (tw hw 21 rfl) (by decide) (by decide)) (g := (mkF m 8 #[rv u1, iv u2, iv u3] [(.int u3), (.int u2), (.ref u1)])) rfl (by rw [hml]; rfl) (argsL := [(.ref u1), (.int u2), (.int u3)]) (rest := []) (lenOf pd_0 rfl) rfl (Nat.le_of_eq rfl) (hb hby d57_8) (fun _ _ => ⟨rfl, e1, (by decide : 0 + 0 ≤ _), (by decide : 0 + 0 ≤ _)⟩)
  dsimp only [Pt.U, Pt.locs, Pt.cells, Pt.slots] at X2 l2 y2 z2 st2 hQ2
  subst l2 y2 z2
  obtain ⟨rfl, N2q, K2c, Fq2_0, Fq2_1⟩ := hQ2
  have K2 : Keep h0 T2.heap [u1] := (Keep.refl h0 [u1]).trans K2c (allS (Or.inl (List.mem_of_getElem? (i := 0) rfl)) all0)
  have V2 : Arv Z T2.heap u1 u4 .byte u5 ((u6 ++ [(Value.int (nar .byte ((u3 >>> ((0 : Int32) &&& 31)).toInt8.toInt32)))]) ++ [(Value.int (nar .byte ((u3 >>> ((8 : Int32) &&& 31)).toInt8.toInt32)))]) (.int (0 : Int32)) := Fq2_0
  have N2 := Fr.app N1 N2q
  obtain ⟨fs, hr, hrun, hended, hW, hsame⟩ := X2.leave (v := none) (fun _ => rfl)
  refine ⟨_, _, pre0 _ ?_, hrun, hended, _, _, rfl, ?_, ⟨_, rfl⟩, hW, hsame.mono (by decide) (by decide)⟩
  · show SF p e below s₁ (mkF m 0 #[rv u1, iv u2, iv u3] []) _
    refine XS.iloadN X0.here hx rfl (hb hby d57_0) rfl ?_
    refine XS.aloadN X0.here hx rfl (hb hby d57_1) rfl rfl ?_
    refine st1 _ ?_
    refine XS.aloadN X1.here hx rfl (hb hby d57_5) rfl rfl ?_
    refine XS.iloadN X1.here hx rfl (hb hby d57_6) rfl ?_
    refine XS.iloadN X1.here hx rfl (hb hby d57_7) rfl ?_
    refine st2 _ ?_
    exact X2.returnOut hx hre (hb hby d57_11) hr
  · show Q57_29 Z u1 u2 u3 u4 u5 u6 GF h0 n0 _ T2.heap _
    exact ⟨rfl, N2, K2, Fq2_1, V2⟩
abbrev D41 (n : Nat) (i : Instr) (k : Nat) : Prop := decode jdk_68_method_31_code n = .ok (i, k)
theorem d41_0 : D41 0 (.aload_n 0) 1 := by decide +kernel
theorem d41_1 : D41 1 (.aload_n 0) 1 := by decide +kernel
theorem d41_2 : D41 2 (.getfield 79) 3 := by decide +kernel
theorem d41_5 : D41 5 (.iconst 1) 1 := by decide +kernel
theorem d41_6 : D41 6 (.iadd) 1 := by decide +kernel
theorem d41_7 : D41 7 (.invokevirtual 100) 3 := by decide +kernel
theorem pd_14 : parseMethodDescriptor "(I)V" = some ⟨[.int], none⟩ := by decide +kernel
theorem d41_10 : D41 10 (.aload_n 0) 1 := by decide +kernel
theorem d41_11 : D41 11 (.invokevirtual 83) 3 := by decide +kernel
theorem d41_14 : D41 14 (.ifCond .eq 31) 3 := by decide +kernel
theorem d41_17 : D41 17 (.iload_n 1) 1 := by decide +kernel
theorem d41_18 : D41 18 (.invokestatic 191) 3 := by decide +kernel
abbrev D42 (n : Nat) (i : Instr) (k : Nat) : Prop := decode jdk_43_method_3_code n = .ok (i, k)
theorem d42_0 : D42 0 (.iload_n 0) 1 := by decide +kernel
theorem d42_1 : D42 1 (.sipush 255) 3 := by decide +kernel
theorem d42_4 : D42 4 (.if_icmp .gt 7) 3 := by decide +kernel
theorem d42_7 : D42 7 (.iconst 1) 1 := by decide +kernel
theorem d42_8 : D42 8 (.goto 4) 3 := by decide +kernel
theorem d42_12 : D42 12 (.ireturn) 1 := by decide +kernel
theorem ef_21 (m : MethodId) (x0 : Int32) : entryFrame m #[(.int x0)] 1 = mkF m 0 #[.val (.int x0)] [] := by first | (simp [entryFrame, mkF, argsToLocals, Value.category]; done) | rfl
def Q42_30 (Z : State) (u1 : Int32) (h0 : Heap) (n0 : Nat) (v : Option Value) (h : Heap) (L : List Loc) : Prop := v = some (.int 1) ∧ Fr n0 L ∧ h = h0
theorem rm42_30 (l : Launch) (Z : State) (a0 : Array Value) (hw : HW Z a0) (ws : List Jvm.Cond) (u1 : Int32) (h0 : Heap) (n0 : Nat) (Z0 : n0 ≤ h0.size) (P1 : ¬ ((255 : Int32) < u1)) :
    MF l Z mq32 (Jvm.Cond.code mq32 jdk_43_method_3_code 1 (some .boolean)) ws rq0 #[(.int u1)] h0 (Q42_30 Z u1 h0 n0) := by
  refine own_enter (plainFor_of_name pn_3) fun p e s m below meth c s₁ X0 hx hby hml hown hnm hZ e0 hre hlk => ?_
  have N0 := Fr.nil n0
  have pre0 : ∀ t, SF p e below s₁ (mkF m 0 #[iv u1] []) t → SF p e below s₁ (entryFrame m #[(.int u1)] 1) t := fun t k => castTop (ef_21 m u1) k
  obtain ⟨fs, hr, hrun, hended, hW, hsame⟩ := X0.leave (v := some (.int 1)) (fun h => by rw [hre] at h; cases h)
  refine ⟨_, _, pre0 _ ?_, hrun, hended, _, _, rfl, ?_, ⟨_, rfl⟩, hW, hsame.mono (by decide) (by decide)⟩
  · show SF p e below s₁ (mkF m 0 #[iv u1] []) _
    refine XS.iloadN X0.here hx rfl (hb hby d42_0) rfl ?_
    refine XS.sipush X0.here hx rfl (hb hby d42_1) ?_
    refine XS.icmpNo X0.here hx rfl (hb hby d42_4) rfl (flt P1).2.2.1 ?_
    refine XS.iconst X0.here hx rfl (hb hby d42_7) ?_
    refine XS.goto X0.here hx rfl (pc0 := 8) (pc' := 12) rfl (hb hby d42_8) (by decide) (by decide) ?_
    exact retN X0 hx (t := .boolean) hre (by simp) (hb hby d42_12) hr
  · show Q42_30 Z u1 h0 n0 _ s₁.heap _
    rw [e0]
    exact ⟨rfl, N0, rfl⟩
theorem pd_15 : parseMethodDescriptor "(C)Z" = some ⟨[.char], some .boolean⟩ := by decide +kernel
theorem d41_21 : D41 21 (.ifCond .eq 24) 3 := by decide +kernel
theorem d41_24 : D41 24 (.aload_n 0) 1 := by decide +kernel
theorem d41_25 : D41 25 (.getfield 15) 3 := by decide +kernel
theorem d41_28 : D41 28 (.aload_n 0) 1 := by decide +kernel
theorem d41_29 : D41 29 (.dup) 1 := by decide +kernel
theorem d41_30 : D41 30 (.getfield 79) 3 := by decide +kernel
theorem d41_33 : D41 33 (.dup_x1) 1 := by decide +kernel
theorem d41_34 : D41 34 (.iconst 1) 1 := by decide +kernel
theorem d41_35 : D41 35 (.iadd) 1 := by decide +kernel
theorem d41_36 : D41 36 (.putfield 79) 3 := by decide +kernel
theorem d41_39 : D41 39 (.iload_n 1) 1 := by decide +kernel
theorem d41_40 : D41 40 (.i2b) 1 := by decide +kernel
theorem d41_41 : D41 41 (.bastore) 1 := by decide +kernel
theorem d41_42 : D41 42 (.goto 33) 3 := by decide +kernel
theorem d41_75 : D41 75 (.aload_n 0) 1 := by decide +kernel
theorem d41_76 : D41 76 (.areturn) 1 := by decide +kernel
theorem ef_22 (m : MethodId) (x0 : Addr) (x1 : Int32) : entryFrame m #[(.ref x0), (.int x1)] 2 = mkF m 0 #[.val (.ref x0), .val (.int x1)] [] := by first | (simp [entryFrame, mkF, argsToLocals, Value.category]; done) | rfl
theorem aacL (l : Launch) (Z : State) (a0 : Array Value) (hw : HW Z a0) (ws : List Jvm.Cond) (sba : Addr) (ca : Int32) (csa : List Int32) (ta : Addr) (kta : ClassId) (nna : Nat) (GC : Int32) (GF : Value) (h0 : Heap) (n0 : Nat) (Z0 : n0 ≤ h0.size) (P1 : Fld Z h0 sba sq2 "count" "I" (.int (Int32.ofNat csa.length))) (P2 : Exa Z h0 sba sq4) (P3 : Fld Z h0 sba sq2 "value" "[B" (.ref ta)) (P4 : Fld Z h0 sba sq2 "coder" "B" (.int 0)) (P5 : Fld Z h0 sba sq2 "maybeLatin1" "Z" (.int 0)) (P6 : Arv Z h0 ta kta .byte (Int32.ofNat nna) (own_lo csa) (.int (0 : Int32))) (P7 : St Z GC GF) (P8 : Old Z n0 h0) (P9 : Exa Z h0 ta "[B") (P10 : ta ≠ sba) (P11 : n0 ≤ sba) (P12 : n0 ≤ ta) (P13 : csa.length ≤ nna) (P14 : nna < 13) (P15 : csa.length < 7) (P16 : (csa.length + 1) < 7) (P17 : (csa.length + 1) ≤ nna + 2) (P18 : 0 < nna) (Sg0 : Sta Z Z.heap sq3 "COMPACT_STRINGS" "Z" (.int GC)) (nzGC : ¬ (GC = (0 : Int32))) (P21 : ¬ ((255 : Int32) < ca)) (P22 : ((Int32.ofNat csa.length)).toNatClampNeg = (own_lo csa).length) (hall : ∀ c ∈ csa, ¬ (255 : Int32) < c) :
    MF l Z mq4 (Jvm.Cond.code mq4 jdk_68_method_31_code 2 (some (.object sq2))) ws rq23 #[(.ref sba), (.int ca)] h0 (QA Z sba ta (csa ++ [ca]) h0 n0) := by
  refine own_enter (plainFor_of_name pn_4) fun p e s m below meth c s₁ X0 hx hby hml hown hnm hZ e0 hre hlk => ?_
  have N0 := Fr.nil n0
  have pre0 : ∀ t, SF p e below s₁ (mkF m 0 #[rv sba, iv ca] []) t → SF p e below s₁ (entryFrame m #[(.ref sba), (.int ca)] 2) t := fun t k => castTop (ef_22 m sba ca) k
  obtain ⟨T1, X1, e1, st1⟩ := getF X0 hx hZ hown (host := "") (Or.inl (tw hw 102 rfl)) Via.refl e0 P1 (g := (mkF m 2 #[rv sba, iv ca] [(.ref sba), (.ref sba)])) rfl rfl (hb hby d41_2)
  obtain ⟨cq2, q2, q2'⟩ := P2.cell
  obtain ⟨_, _, ⟨T2, L2, k2x, n2⟩, -, X2, ⟨Lc2, hQ2, l2, y2, z2⟩, st2⟩ := X1.privateBack hx (y := mq6) hown (mvT hZ (tw hw 104 rfl)) (mvT hZ (tw hw 105 rfl)) (own_selR hZ (tw hw 107 rfl) (tw hw 106 rfl) (tw hw 105 rfl) (by decide)) (Cond.privateMethod_at (mvP hZ (tw hw 106 rfl) (args := #[]))) (mvT hZ (tw hw 108 rfl)) (by decide) (backOf (W := 0) (ens0 l Z a0 hw [] GC GF sba ta kta nna (csa.length + 1) csa h0 n0 Z0 P7 P8 P2 P3 P4 P1 P5 P9 P6 P10 P11 P12 P13 P14 P15 P16 P17 P18) hZ (tw hw 108 rfl) (tw hw 58 rfl) (by decide) (by decide)) (g := (mkF m 7 #[rv sba, iv ca] [(.int (Int32.ofNat (csa.length + 1))), (.ref sba)])) rfl (by rw [hml]; rfl) (Steps.refl _) (a := sba) (by rw [e1]; exact q2) q2' (argsL := [(.int (Int32.ofNat (csa.length + 1)))]) (rest := []) (lenOf pd_14 rfl) rfl (Nat.le_of_eq rfl) (hb hby d41_7) (fun _ _ => ⟨rfl, e1, (by decide : 0 + 1 ≤ _), (by decide : 0 + 24 ≤ _)⟩)
  dsimp only [Pt.U, Pt.locs, Pt.cells, Pt.slots] at X2 l2 y2 z2 st2 hQ2
  subst l2 y2 z2
  obtain ⟨b13, k14, nq2, hor2, hne2, hgt2, hmi2, hnq2, rfl, N2q, K2c, Fq2_0, Fq2_1, Fq2_2, Fq2_3, Fq2_4, Fq2_5, Fq2_6⟩ := hQ2
  have K2 : Keep h0 T2.heap [sba, ta] := (Keep.refl h0 [sba, ta]).trans K2c (allS (Or.inl (List.mem_of_getElem? (i := 0) rfl)) all0)
  have N2 := Fr.app N0 N2q
  have O2 : Old Z n0 T2.heap := P8.keep K2c (allS P11 all0)
  have Z2 : n0 ≤ T2.heap.size := Nat.le_trans Z0 K2c.1
  obtain ⟨cq3, kq3, q3a, q3b, q3c⟩ := isOf hZ rfl Fq2_0
  obtain ⟨_, _, ⟨T3, L3, k3x, n3⟩, -, X3, ⟨Lc3, hQ3, l3, y3, z3⟩, st3⟩ := X2.virtualBack hx (y := mq10) (z := mq10) hown (mvT hZ (tw hw 205 rfl)) (mvT hZ (tw hw 178 rfl)) (notFace_of_selects (args := #[]) (mvT hZ (tw hw 180 rfl))) (mvT hZ (tw hw 180 rfl)) (mvT hZ (tw hw 179 rfl)) (by decide) (backOf (W := 0) (rm35_7 l Z a0 hw [] sba GC T2.heap n0 Z2 Sg0 O2 nzGC Fq2_2) hZ (tw hw 181 rfl) (tw hw 58 rfl) (by decide) (by decide)) q3a q3c (g := (mkF m 11 #[rv sba, iv ca] [(.ref sba)])) rfl (by rw [hml]; rfl) (Steps.refl _) (argsL := []) (rest := []) (lenOf pd_6 rfl) rfl (Nat.le_of_eq rfl) (hb hby d41_11) (fun _ _ => ⟨rfl, rfl, (by decide : 1 + 0 ≤ _), (by decide : 24 + 0 ≤ _)⟩)
  dsimp only [Pt.U, Pt.locs, Pt.cells, Pt.slots] at X3 l3 y3 z3 st3 hQ3
  subst l3 y3 z3
  obtain ⟨rfl, N3q, e3⟩ := hQ3
  have N3 := Fr.app N2 N3q
  obtain ⟨_, _, ⟨T4, L4, k4x, n4⟩, -, X4, ⟨Lc4, hQ4, l4, y4, z4⟩, st4⟩ := Jvm.LawKit.callS X3 hx (y := mq32) hown (mvT hZ (tw hw 206 rfl)) (mvT hZ (tw hw 207 rfl)) (mvT hZ (tw hw 78 rfl)) (mvT hZ (tw hw 208 rfl)) (by decide) (backOf (W := 0) (rm42_30 l Z a0 hw [] ca T2.heap n0 Z2 P21) hZ (tw hw 208 rfl) (tw hw 78 rfl) (by decide) (by decide)) (g := (mkF m 18 #[rv sba, iv ca] [(.int ca)])) rfl (by rw [hml]; rfl) (argsL := [(.int ca)]) (rest := []) (lenOf pd_15 rfl) rfl (Nat.le_of_eq rfl) (hb hby d41_18) (fun _ _ => ⟨rfl, e3, (by decide : 1 + 0 ≤ _), (by decide : 24 + 0 ≤ _)⟩)
  dsimp only [Pt.U, Pt.locs, Pt.cells, Pt.slots] at X4 l4 y4 z4 st4 hQ4
  subst l4 y4 z4
  obtain ⟨rfl, N4q, e4⟩ := hQ4
  have N4 := Fr.app N3 N4q
  obtain ⟨T5, X5, e5, st5⟩ := getF X4 hx hZ hown (host := "") (Or.inl (tw hw 62 rfl)) Via.refl e4 Fq2_1 (g := (mkF m 25 #[rv sba, iv ca] [(.ref sba)])) rfl rfl (hb hby d41_25)
  obtain ⟨T6, X6, e6, st6⟩ := getF X5 hx hZ hown (host := "") (Or.inl (tw hw 102 rfl)) Via.refl e5 Fq2_3 (g := (mkF m 30 #[rv sba, iv ca] [(.ref sba), (.ref sba), (.ref b13)])) rfl rfl (hb hby d41_30)
  obtain ⟨T7, h7, X7, e7, W7, st7⟩ := putF X6 hx hZ hown (host := "") (Or.inl (tw hw 102 rfl)) Via.refl e6 Fq2_3 Fq2_0 (Or.inl (tw hw 103 rfl)) (tw hw 39 rfl) (ty := .int) (by decide) rfl rfl (g := (mkF m 36 #[rv sba, iv ca] [(.int (Int32.ofNat (csa.length + 1))), (.ref sba), (.int (Int32.ofNat csa.length)), (.ref b13)])) rfl rfl (hb hby d41_36)
  have K7 : Keep h0 h7 [sba, ta] := K2.wr W7 (Or.inl (List.mem_of_getElem? (i := 0) rfl))
  have N7 := Fr.snoc X7 N4 P11
  have Fw7 : Fld Z h7 sba sq2 "count" "I" (.int (Int32.ofNat (csa.length + 1))) := Fq2_3.same W7
  have F2_8 : Arv Z h7 b13 k14 .byte (Int32.ofNat nq2) (own_lo csa) (.int (0 : Int32)) := Fq2_6.other W7 hne2
  obtain ⟨cl9, Ar9, q9, S9, N9z, H9, G9⟩ := id F2_8
  have hin9 : ¬ ((Int32.ofNat csa.length) < 0 ∨ cl9.slots.size ≤ ((Int32.ofNat csa.length)).toNatClampNeg) := inb_of S9 ((own_all2 7 13 (C := fun q nq => (q + 1 ≤ nq)) (P := fun q nq => ¬ (Int32.ofNat q) < 0 ∧ (Int32.ofNat q) < (Int32.ofNat nq)) (by decide +kernel) csa.length P15 nq2 hnq2 hmi2))
  obtain ⟨T10, h10, X10, e10, W10, st10⟩ := stB X7 hx hZ e7 Ar9 (j := (Int32.ofNat csa.length)) hin9 (g := (mkF m 41 #[rv sba, iv ca] [(.int (ca.toInt8.toInt32)), (.int (Int32.ofNat csa.length)), (.ref b13)])) rfl rfl (hb hby d41_41)
  have K10 : Keep h0 h10 [sba, ta] := K7.wr W10 (own_or hor2 (List.mem_of_getElem? (i := 1) rfl) (Keep.refl h0 [sba, ta]).1)
  have N10 := Fr.snoc X10 N7 hgt2
  have V10 : Arv Z h10 b13 k14 .byte (Int32.ofNat nq2) ((own_lo csa) ++ [(Value.int (nar .byte (ca.toInt8.toInt32)))]) (.int (0 : Int32)) := own_push F2_8 (fits_nar_byte _) W10 P22
  have F2_11 : Fld Z h7 sba sq2 "value" "[B" (.ref b13) := Fq2_1.other W7 (Or.inr (slot_ne (Or.inl (tw hw 63 rfl)) (Or.inl (tw hw 103 rfl)) (by decide) (t := (.array .byte)) (t' := .int) (by decide) (by decide)))
  have F3_12 : Fld Z h10 sba sq2 "value" "[B" (.ref b13) := F2_11.other W10 (Or.inl (Ne.symm hne2))
  have F2_13 : Exa Z h7 sba sq4 := Fq2_0.wr W7
  have F3_14 : Exa Z h10 sba sq4 := F2_13.wr W10
  have F2_15 : Fld Z h7 sba sq2 "coder" "B" (.int 0) := Fq2_2.other W7 (Or.inr (slot_ne (Or.inl (tw hw 65 rfl)) (Or.inl (tw hw 103 rfl)) (by decide) (t := .byte) (t' := .int) (by decide) (by decide)))
  have F3_16 : Fld Z h10 sba sq2 "coder" "B" (.int 0) := F2_15.other W10 (Or.inl (Ne.symm hne2))
  have F3_17 : Fld Z h10 sba sq2 "count" "I" (.int (Int32.ofNat (csa.length + 1))) := Fw7.other W10 (Or.inl (Ne.symm hne2))
  have F2_18 : Fld Z h7 sba sq2 "maybeLatin1" "Z" (.int 0) := Fq2_4.other W7 (Or.inr (slot_ne (Or.inl (tw hw 275 rfl)) (Or.inl (tw hw 103 rfl)) (by decide) (t := .boolean) (t' := .int) (by decide) (by decide)))
  have F3_19 : Fld Z h10 sba sq2 "maybeLatin1" "Z" (.int 0) := F2_18.other W10 (Or.inl (Ne.symm hne2))
  have F2_20 : Exa Z h7 b13 "[B" := Fq2_5.wr W7
  have F3_21 : Exa Z h10 b13 "[B" := F2_20.wr W10
  obtain ⟨fs, hr, hrun, hended, hW, hsame⟩ := X10.leave (v := some (.ref sba)) (fun h => by rw [hre] at h; cases h)
  refine ⟨_, _, pre0 _ ?_, hrun, hended, _, _, rfl, ?_, ⟨_, rfl⟩, hW, hsame.mono (by decide) (by decide)⟩
  · show SF p e below s₁ (mkF m 0 #[rv sba, iv ca] []) _
    refine XS.aloadN X0.here hx rfl (hb hby d41_0) rfl rfl ?_
    refine XS.aloadN X0.here hx rfl (hb hby d41_1) rfl rfl ?_
    refine st1 _ ?_
    refine XS.iconst X1.here hx rfl (hb hby d41_5) ?_
    refine XS.iadd X1.here hx rfl (hb hby d41_6) rfl ?_
    show SF p e below T1 (mkF m 7 #[rv sba, iv ca] [(.int ((Int32.ofNat csa.length) + (1 : Int32))), (.ref sba)]) _
    rw [(show ((Int32.ofNat csa.length) + (1 : Int32)) = (Int32.ofNat (csa.length + 1)) from own_addk _ 1)]
    refine st2.trans ?_
    refine XS.aloadN X2.here hx rfl (hb hby d41_10) rfl rfl ?_
    refine st3.trans ?_
    refine XS.ifNo X3.here hx rfl (hb hby d41_14) rfl ((if0 _ _).trans (feq (by decide : ¬ ((1 : Int32) = (0 : Int32)))).1) ?_
    refine XS.iloadN X3.here hx rfl (hb hby d41_17) rfl ?_
    refine st4 _ ?_
    refine XS.ifNo X4.here hx rfl (hb hby d41_21) rfl ((if0 _ _).trans (feq (by decide : ¬ ((1 : Int32) = (0 : Int32)))).1) ?_
    refine XS.aloadN X4.here hx rfl (hb hby d41_24) rfl rfl ?_
    refine st5 _ ?_
    refine XS.aloadN X5.here hx rfl (hb hby d41_28) rfl rfl ?_
    refine XS.dup X5.here hx rfl (hb hby d41_29) rfl rfl ?_
    refine st6 _ ?_
    refine XS.dupX1 X6.here hx rfl (hb hby d41_33) rfl rfl rfl ?_
    refine XS.iconst X6.here hx rfl (hb hby d41_34) ?_
    refine XS.iadd X6.here hx rfl (hb hby d41_35) rfl ?_
    show SF p e below T6 (mkF m 36 #[rv sba, iv ca] [(.int ((Int32.ofNat csa.length) + (1 : Int32))), (.ref sba), (.int (Int32.ofNat csa.length)), (.ref b13)]) _
    rw [(show ((Int32.ofNat csa.length) + (1 : Int32)) = (Int32.ofNat (csa.length + 1)) from own_addk _ 1)]
    refine st7 _ ?_
    refine XS.iloadN X7.here hx rfl (hb hby d41_39) rfl ?_
    refine XS.i2b X7.here hx rfl (hb hby d41_40) rfl ?_
    refine st10 _ ?_
    refine XS.goto X10.here hx rfl (pc0 := 42) (pc' := 75) rfl (hb hby d41_42) (by decide) (by decide) ?_
    refine XS.aloadN X10.here hx rfl (hb hby d41_75) rfl rfl ?_
    exact own_retR X10 hx hre rfl rfl (hb hby d41_76) hr
  · show QA Z sba ta (csa ++ [ca]) h0 n0 _ T10.heap _
    rw [e10]
    have hlen1 : (csa ++ [ca]).length = csa.length + 1 := by simp
    exact ⟨b13, hor2, rfl, N10, K10, k14, nq2, (0 : Int32), F3_14, F3_12, F3_16, by rw [hlen1]; exact F3_17, F3_19, F3_21, hne2, P11, hgt2, by rw [hlen1]; omega, by omega, by omega, Or.inl ⟨rfl, (own_lo_snoc csa ca ▸ V10), fun c hc => (List.mem_append.mp hc).elim (hall c) (fun q => by rw [List.mem_singleton.mp q]; exact P21)⟩⟩
theorem d42_11 : D42 11 (.iconst 0) 1 := by decide +kernel
def Q42_31 (Z : State) (u1 : Int32) (h0 : Heap) (n0 : Nat) (v : Option Value) (h : Heap) (L : List Loc) : Prop := v = some (.int 0) ∧ Fr n0 L ∧ h = h0
theorem rm42_31 (l : Launch) (Z : State) (a0 : Array Value) (hw : HW Z a0) (ws : List Jvm.Cond) (u1 : Int32) (h0 : Heap) (n0 : Nat) (Z0 : n0 ≤ h0.size) (P1 : (255 : Int32) < u1) :
    MF l Z mq32 (Jvm.Cond.code mq32 jdk_43_method_3_code 1 (some .boolean)) ws rq0 #[(.int u1)] h0 (Q42_31 Z u1 h0 n0) := by
  refine own_enter (plainFor_of_name pn_3) fun p e s m below meth c s₁ X0 hx hby hml hown hnm hZ e0 hre hlk => ?_
  have N0 := Fr.nil n0
  have pre0 : ∀ t, SF p e below s₁ (mkF m 0 #[iv u1] []) t → SF p e below s₁ (entryFrame m #[(.int u1)] 1) t := fun t k => castTop (ef_21 m u1) k
  obtain ⟨fs, hr, hrun, hended, hW, hsame⟩ := X0.leave (v := some (.int 0)) (fun h => by rw [hre] at h; cases h)
  refine ⟨_, _, pre0 _ ?_, hrun, hended, _, _, rfl, ?_, ⟨_, rfl⟩, hW, hsame.mono (by decide) (by decide)⟩
  · show SF p e below s₁ (mkF m 0 #[iv u1] []) _
    refine XS.iloadN X0.here hx rfl (hb hby d42_0) rfl ?_
    refine XS.sipush X0.here hx rfl (hb hby d42_1) ?_
    refine XS.icmpYes X0.here hx rfl (pc0 := 4) (pc' := 11) rfl (hb hby d42_4) rfl (tlt P1).2.2.1 (by decide) (by decide) ?_
    refine XS.iconst X0.here hx rfl (hb hby d42_11) ?_
    exact retN X0 hx (t := .boolean) hre (by simp) (hb hby d42_12) hr
  · show Q42_31 Z u1 h0 n0 _ s₁.heap _
    rw [e0]
    exact ⟨rfl, N0, rfl⟩
theorem d41_45 : D41 45 (.aload_n 0) 1 := by decide +kernel
theorem d41_46 : D41 46 (.invokevirtual 83) 3 := by decide +kernel
theorem d41_49 : D41 49 (.ifCond .eq 7) 3 := by decide +kernel
theorem d41_52 : D41 52 (.aload_n 0) 1 := by decide +kernel
theorem d41_53 : D41 53 (.invokevirtual 195) 3 := by decide +kernel
theorem pd_16 : parseMethodDescriptor "()V" = some ⟨[], none⟩ := by decide +kernel
theorem d41_56 : D41 56 (.aload_n 0) 1 := by decide +kernel
theorem d41_57 : D41 57 (.getfield 15) 3 := by decide +kernel
theorem d41_60 : D41 60 (.aload_n 0) 1 := by decide +kernel
theorem d41_61 : D41 61 (.dup) 1 := by decide +kernel
theorem d41_62 : D41 62 (.getfield 79) 3 := by decide +kernel
theorem d41_65 : D41 65 (.dup_x1) 1 := by decide +kernel
theorem d41_66 : D41 66 (.iconst 1) 1 := by decide +kernel
theorem d41_67 : D41 67 (.iadd) 1 := by decide +kernel
theorem d41_68 : D41 68 (.putfield 79) 3 := by decide +kernel
theorem d41_71 : D41 71 (.iload_n 1) 1 := by decide +kernel
theorem d41_72 : D41 72 (.invokestatic 197) 3 := by decide +kernel
theorem aacW (l : Launch) (Z : State) (a0 : Array Value) (hw : HW Z a0) (ws : List Jvm.Cond) (sba : Addr) (ca : Int32) (csa : List Int32) (ta : Addr) (kta : ClassId) (nna : Nat) (GC : Int32) (GF : Value) (h0 : Heap) (n0 : Nat) (Z0 : n0 ≤ h0.size) (P1 : Fld Z h0 sba sq2 "count" "I" (.int (Int32.ofNat csa.length))) (P2 : Exa Z h0 sba sq4) (P3 : Fld Z h0 sba sq2 "value" "[B" (.ref ta)) (P4 : Fld Z h0 sba sq2 "coder" "B" (.int 0)) (P5 : Fld Z h0 sba sq2 "maybeLatin1" "Z" (.int 0)) (P6 : Arv Z h0 ta kta .byte (Int32.ofNat nna) (own_lo csa) (.int (0 : Int32))) (P7 : St Z GC GF) (P8 : Old Z n0 h0) (P9 : Exa Z h0 ta "[B") (P10 : ta ≠ sba) (P11 : n0 ≤ sba) (P12 : n0 ≤ ta) (P13 : csa.length ≤ nna) (P14 : nna < 13) (P15 : csa.length < 7) (P16 : (csa.length + 1) < 7) (P17 : (csa.length + 1) ≤ nna + 2) (P18 : 0 < nna) (Sg0 : Sta Z Z.heap sq3 "COMPACT_STRINGS" "Z" (.int GC)) (nzGC : ¬ (GC = (0 : Int32))) (P21 : (255 : Int32) < ca) (P22 : ∀ c ∈ csa, ¬ c < 0 ∧ ¬ (255 : Int32) < c) (P23 : sba < h0.size) (Sg1 : Sta Z Z.heap sq6 "SIOOBE_FORMATTER" "Ljava/util/function/BiFunction;" GF) (P25 : ¬ ((Int32.ofNat csa.length) < (0 : Int32))) (rGF : GF.isRef = true) (Sg4 : Sta Z Z.heap sq5 "$assertionsDisabled" "Z" (.int 1)) (Sg5 : Sta Z Z.heap sq5 "HI_BYTE_SHIFT" "I" (.int 0)) (P29 : (((Int32.ofNat csa.length) <<< ((1 : Int32) &&& 31))).toNatClampNeg = (([] : List Value) ++ own_wd csa).length) (Sg6 : Sta Z Z.heap sq5 "LO_BYTE_SHIFT" "I" (.int 8)) (P31 : ((((Int32.ofNat csa.length) <<< ((1 : Int32) &&& 31)) + (1 : Int32))).toNatClampNeg = ((([] : List Value) ++ own_wd csa) ++ [(Value.int (nar .byte ((ca >>> ((0 : Int32) &&& 31)).toInt8.toInt32)))]).length) :
    MF l Z mq4 (Jvm.Cond.code mq4 jdk_68_method_31_code 2 (some (.object sq2))) ws rq23 #[(.ref sba), (.int ca)] h0 (QA Z sba ta (csa ++ [ca]) h0 n0) := by
  refine own_enter (plainFor_of_name pn_4) fun p e s m below meth c s₁ X0 hx hby hml hown hnm hZ e0 hre hlk => ?_
  have N0 := Fr.nil n0
  have pre0 : ∀ t, SF p e below s₁ (mkF m 0 #[rv sba, iv ca] []) t → SF p e below s₁ (entryFrame m #[(.ref sba), (.int ca)] 2) t := fun t k => castTop (ef_22 m sba ca) k
  obtain ⟨T1, X1, e1, st1⟩ := getF X0 hx hZ hown (host := "") (Or.inl (tw hw 102 rfl)) Via.refl e0 P1 (g := (mkF m 2 #[rv sba, iv ca] [(.ref sba), (.ref sba)])) rfl rfl (hb hby d41_2)
  obtain ⟨cq2, q2, q2'⟩ := P2.cell
  obtain ⟨_, _, ⟨T2, L2, k2x, n2⟩, -, X2, ⟨Lc2, hQ2, l2, y2, z2⟩, st2⟩ := X1.privateBack hx (y := mq6) hown (mvT hZ (tw hw 104 rfl)) (mvT hZ (tw hw 105 rfl)) (own_selR hZ (tw hw 107 rfl) (tw hw 106 rfl) (tw hw 105 rfl) (by decide)) (Cond.privateMethod_at (mvP hZ (tw hw 106 rfl) (args := #[]))) (mvT hZ (tw hw 108 rfl)) (by decide) (backOf (W := 0) (ens0 l Z a0 hw [] GC GF sba ta kta nna (csa.length + 1) csa h0 n0 Z0 P7 P8 P2 P3 P4 P1 P5 P9 P6 P10 P11 P12 P13 P14 P15 P16 P17 P18) hZ (tw hw 108 rfl) (tw hw 58 rfl) (by decide) (by decide)) (g := (mkF m 7 #[rv sba, iv ca] [(.int (Int32.ofNat (csa.length + 1))), (.ref sba)])) rfl (by rw [hml]; rfl) (Steps.refl _) (a := sba) (by rw [e1]; exact q2) q2' (argsL := [(.int (Int32.ofNat (csa.length + 1)))]) (rest := []) (lenOf pd_14 rfl) rfl (Nat.le_of_eq rfl) (hb hby d41_7) (fun _ _ => ⟨rfl, e1, (by decide : 0 + 1 ≤ _), (by decide : 0 + 24 ≤ _)⟩)
  dsimp only [Pt.U, Pt.locs, Pt.cells, Pt.slots] at X2 l2 y2 z2 st2 hQ2
  subst l2 y2 z2
  obtain ⟨b15, k16, nq2, hor2, hne2, hgt2, hmi2, hnq2, rfl, N2q, K2c, Fq2_0, Fq2_1, Fq2_2, Fq2_3, Fq2_4, Fq2_5, Fq2_6⟩ := hQ2
  have K2 : Keep h0 T2.heap [sba] := (Keep.refl h0 [sba]).trans K2c (allS (Or.inl (List.mem_of_getElem? (i := 0) rfl)) all0)
  have N2 := Fr.app N0 N2q
  have O2 : Old Z n0 T2.heap := P8.keep K2c (allS P11 all0)
  have Z2 : n0 ≤ T2.heap.size := Nat.le_trans Z0 K2c.1
  obtain ⟨cq3, kq3, q3a, q3b, q3c⟩ := isOf hZ rfl Fq2_0
  obtain ⟨_, _, ⟨T3, L3, k3x, n3⟩, -, X3, ⟨Lc3, hQ3, l3, y3, z3⟩, st3⟩ := X2.virtualBack hx (y := mq10) (z := mq10) hown (mvT hZ (tw hw 205 rfl)) (mvT hZ (tw hw 178 rfl)) (notFace_of_selects (args := #[]) (mvT hZ (tw hw 180 rfl))) (mvT hZ (tw hw 180 rfl)) (mvT hZ (tw hw 179 rfl)) (by decide) (backOf (W := 0) (rm35_7 l Z a0 hw [] sba GC T2.heap n0 Z2 Sg0 O2 nzGC Fq2_2) hZ (tw hw 181 rfl) (tw hw 58 rfl) (by decide) (by decide)) q3a q3c (g := (mkF m 11 #[rv sba, iv ca] [(.ref sba)])) rfl (by rw [hml]; rfl) (Steps.refl _) (argsL := []) (rest := []) (lenOf pd_6 rfl) rfl (Nat.le_of_eq rfl) (hb hby d41_11) (fun _ _ => ⟨rfl, rfl, (by decide : 1 + 0 ≤ _), (by decide : 24 + 0 ≤ _)⟩)
  dsimp only [Pt.U, Pt.locs, Pt.cells, Pt.slots] at X3 l3 y3 z3 st3 hQ3
  subst l3 y3 z3
  obtain ⟨rfl, N3q, e3⟩ := hQ3
  have N3 := Fr.app N2 N3q
  obtain ⟨_, _, ⟨T4, L4, k4x, n4⟩, -, X4, ⟨Lc4, hQ4, l4, y4, z4⟩, st4⟩ := Jvm.LawKit.callS X3 hx (y := mq32) hown (mvT hZ (tw hw 206 rfl)) (mvT hZ (tw hw 207 rfl)) (mvT hZ (tw hw 78 rfl)) (mvT hZ (tw hw 208 rfl)) (by decide) (backOf (W := 0) (rm42_31 l Z a0 hw [] ca T2.heap n0 Z2 P21) hZ (tw hw 208 rfl) (tw hw 78 rfl) (by decide) (by decide)) (g := (mkF m 18 #[rv sba, iv ca] [(.int ca)])) rfl (by rw [hml]; rfl) (argsL := [(.int ca)]) (rest := []) (lenOf pd_15 rfl) rfl (Nat.le_of_eq rfl) (hb hby d41_18) (fun _ _ => ⟨rfl, e3, (by decide : 1 + 0 ≤ _), (by decide : 24 + 0 ≤ _)⟩)
  dsimp only [Pt.U, Pt.locs, Pt.cells, Pt.slots] at X4 l4 y4 z4 st4 hQ4
  subst l4 y4 z4
  obtain ⟨rfl, N4q, e4⟩ := hQ4
  have N4 := Fr.app N3 N4q
  obtain ⟨cq5, kq5, q5a, q5b, q5c⟩ := isOf hZ e4 Fq2_0
  obtain ⟨_, _, ⟨T5, L5, k5x, n5⟩, -, X5, ⟨Lc5, hQ5, l5, y5, z5⟩, st5⟩ := X4.virtualBack hx (y := mq10) (z := mq10) hown (mvT hZ (tw hw 205 rfl)) (mvT hZ (tw hw 178 rfl)) (notFace_of_selects (args := #[]) (mvT hZ (tw hw 180 rfl))) (mvT hZ (tw hw 180 rfl)) (mvT hZ (tw hw 179 rfl)) (by decide) (backOf (W := 0) (rm35_7 l Z a0 hw [] sba GC T2.heap n0 Z2 Sg0 O2 nzGC Fq2_2) hZ (tw hw 181 rfl) (tw hw 58 rfl) (by decide) (by decide)) q5a q5c (g := (mkF m 46 #[rv sba, iv ca] [(.ref sba)])) rfl (by rw [hml]; rfl) (Steps.refl _) (argsL := []) (rest := []) (lenOf pd_6 rfl) rfl (Nat.le_of_eq rfl) (hb hby d41_46) (fun _ _ => ⟨rfl, e4, (by decide : 1 + 0 ≤ _), (by decide : 24 + 0 ≤ _)⟩)
  dsimp only [Pt.U, Pt.locs, Pt.cells, Pt.slots] at X5 l5 y5 z5 st5 hQ5
  subst l5 y5 z5
  obtain ⟨rfl, N5q, e5⟩ := hQ5
  have N5 := Fr.app N4 N5q
  have lt_sba_1 : sba < T2.heap.size := Nat.lt_of_lt_of_le P23 K2c.1
  obtain ⟨cq6, q6, q6'⟩ := Fq2_0.cell
  obtain ⟨_, _, ⟨T6, L6, k6x, n6⟩, -, X6, ⟨Lc6, hQ6, l6, y6, z6⟩, st6⟩ := X5.privateBack hx (y := mq8) hown (mvT hZ (tw hw 250 rfl)) (mvT hZ (tw hw 251 rfl)) (own_selR hZ (tw hw 253 rfl) (tw hw 252 rfl) (tw hw 251 rfl) (by decide)) (Cond.privateMethod_at (mvP hZ (tw hw 252 rfl) (args := #[]))) (mvT hZ (tw hw 254 rfl)) (by decide) (backOf (W := 0) (rm51_10 l Z a0 hw [] sba GC b15 k16 nq2 csa GF T2.heap n0 Z2 Fq2_0 Sg0 O2 nzGC Fq2_2 Fq2_1 Fq2_6 ((own_all2 7 13 (C := fun q nq => (q + 1 ≤ nq)) (P := fun q nq => ¬ ((Int32.ofNat nq) < (0 : Int32))) (by decide +kernel) csa.length P15 nq2 hnq2 hmi2)) ((own_all2 7 13 (C := fun q nq => (q + 1 ≤ nq)) (P := fun q nq => (Int32.ofNat nq) < (1073741823 : Int32)) (by decide +kernel) csa.length P15 nq2 hnq2 hmi2)) ((own_all2 7 13 (C := fun q nq => (q + 1 ≤ nq)) (P := fun q nq => ¬ (Int32.ofNat (2 * nq)) < 0) (by decide +kernel) csa.length P15 nq2 hnq2 hmi2)) ((own_all2 7 13 (C := fun q nq => (q + 1 ≤ nq)) (P := fun q nq => ((Int32.ofNat (2 * nq))).toNatClampNeg ≤ 24) (by decide +kernel) csa.length P15 nq2 hnq2 hmi2)) Fq2_3 P7 ((own_all2 7 13 (C := fun q nq => (q + 1 ≤ nq)) (P := fun q nq => q ≤ ((Int32.ofNat nq)).toNatClampNeg) (by decide +kernel) csa.length P15 nq2 hnq2 hmi2)) P22 (show (0) + csa.length ≤ nq2 from by omega) (show nq2 < 13 from by omega) Fq2_6.lt Fq2_4 lt_sba_1 P11) hZ (tw hw 254 rfl) (tw hw 58 rfl) (by decide) (by decide)) (g := (mkF m 53 #[rv sba, iv ca] [(.ref sba)])) rfl (by rw [hml]; rfl) (Steps.refl _) (a := sba) (by rw [e5]; exact q6) q6' (argsL := []) (rest := []) (lenOf pd_16 rfl) rfl (Nat.le_of_eq rfl) (hb hby d41_53) (fun _ _ => ⟨rfl, e5, (by decide : 1 + 1 ≤ _), (by decide : 24 + 24 ≤ _)⟩)
  dsimp only [Pt.U, Pt.locs, Pt.cells, Pt.slots] at X6 l6 y6 z6 st6 hQ6
  subst l6 y6 z6
  obtain ⟨b17, k18, bz_b17, rfl, N6q, K6c, Fq6_0, Fq6_1, Fq6_2, Fq6_3, Fq6_4, Fq6_5, Fq6_6⟩ := hQ6
  have K6 : Keep h0 T6.heap [sba] := K2.trans K6c (allS (Or.inl (List.mem_of_getElem? (i := 0) rfl)) all0)
  have N6 := Fr.app N5 N6q
  obtain ⟨T7, X7, e7, st7⟩ := getF X6 hx hZ hown (host := "") (Or.inl (tw hw 62 rfl)) Via.refl rfl Fq6_2 (g := (mkF m 57 #[rv sba, iv ca] [(.ref sba)])) rfl rfl (hb hby d41_57)
  obtain ⟨T8, X8, e8, st8⟩ := getF X7 hx hZ hown (host := "") (Or.inl (tw hw 102 rfl)) Via.refl e7 Fq6_3 (g := (mkF m 62 #[rv sba, iv ca] [(.ref sba), (.ref sba), (.ref b17)])) rfl rfl (hb hby d41_62)
  obtain ⟨T9, h9, X9, e9, W9, st9⟩ := putF X8 hx hZ hown (host := "") (Or.inl (tw hw 102 rfl)) Via.refl e8 Fq6_3 Fq6_0 (Or.inl (tw hw 103 rfl)) (tw hw 39 rfl) (ty := .int) (by decide) rfl rfl (g := (mkF m 68 #[rv sba, iv ca] [(.int (Int32.ofNat (csa.length + 1))), (.ref sba), (.int (Int32.ofNat csa.length)), (.ref b17)])) rfl rfl (hb hby d41_68)
  have K9 : Keep h0 h9 [sba] := K6.wr W9 (Or.inl (List.mem_of_getElem? (i := 0) rfl))
  have N9 := Fr.snoc X9 N6 P11
  have Fw9 : Fld Z h9 sba sq2 "count" "I" (.int (Int32.ofNat (csa.length + 1))) := Fq6_3.same W9
  have F3_10 : Arv Z h9 b17 k18 .byte (Int32.ofNat (2 * nq2)) (([] : List Value) ++ own_wd csa) (.int (0 : Int32)) := Fq6_6.other W9 (Ne.symm (Nat.ne_of_lt (Nat.lt_of_lt_of_le lt_sba_1 bz_b17)))
  have F3_11 : Exa Z h9 b17 "[B" := Fq6_5.wr W9
  have O6 : Old Z n0 T6.heap := O2.keep K6c (allS P11 all0)
  have O9 : Old Z n0 h9 := O6.wr W9 P11
  have g_b17 : n0 ≤ b17 := Nat.le_trans Z2 bz_b17
  have Z6 : n0 ≤ T6.heap.size := Nat.le_trans Z2 K6c.1
  have Z9 : n0 ≤ h9.size := Nat.le_trans Z6 (Keep.of_wr W9).1
  obtain ⟨_, _, ⟨T12, L12, k12x, n12⟩, -, X12, ⟨Lc12, hQ12, l12, y12, z12⟩, st12⟩ := Jvm.LawKit.callS X9 hx (y := mq46) hown (mvT hZ (tw hw 271 rfl)) (mvT hZ (tw hw 272 rfl)) (mvT hZ (tw hw 21 rfl)) (mvT hZ (tw hw 273 rfl)) (by decide) (backOf (W := 0) (rm57_29 l Z a0 hw [] b17 (Int32.ofNat csa.length) ca k18 (Int32.ofNat (2 * nq2)) (([] : List Value) ++ own_wd csa) GF h9 n0 Z9 F3_10 Sg1 O9 P25 ((own_all2 7 13 (C := fun q nq => (q + 1 ≤ nq)) (P := fun q nq => (Int32.ofNat q) < ((Int32.ofNat (2 * nq)) >>> ((1 : Int32) &&& 31))) (by decide +kernel) csa.length P15 nq2 hnq2 hmi2)) rGF F3_11 Sg4 Sg5 ((own_all2 7 13 (C := fun q nq => (q + 1 ≤ nq)) (P := fun q nq => ¬ ((Int32.ofNat q) <<< ((1 : Int32) &&& 31)) < 0 ∧ ((Int32.ofNat q) <<< ((1 : Int32) &&& 31)) < (Int32.ofNat (2 * nq))) (by decide +kernel) csa.length P15 nq2 hnq2 hmi2)) g_b17 P29 Sg6 ((own_all2 7 13 (C := fun q nq => (q + 1 ≤ nq)) (P := fun q nq => ¬ (((Int32.ofNat q) <<< ((1 : Int32) &&& 31)) + (1 : Int32)) < 0 ∧ (((Int32.ofNat q) <<< ((1 : Int32) &&& 31)) + (1 : Int32)) < (Int32.ofNat (2 * nq))) (by decide +kernel) csa.length P15 nq2 hnq2 hmi2)) P31) hZ (tw hw 273 rfl) (tw hw 21 rfl) (by decide) (by decide)) (g := (mkF m 72 #[rv sba, iv ca] [(.int ca), (.int (Int32.ofNat csa.length)), (.ref b17)])) rfl (by rw [hml]; rfl) (argsL := [(.ref b17), (.int (Int32.ofNat csa.length)), (.int ca)]) (rest := []) (lenOf pd_0 rfl) rfl (Nat.le_of_eq rfl) (hb hby d41_72) (fun _ _ => ⟨rfl, e9, (by decide : 2 + 0 ≤ _), (by decide : 48 + 0 ≤ _)⟩)
  dsimp only [Pt.U, Pt.locs, Pt.cells, Pt.slots] at X12 l12 y12 z12 st12 hQ12
  subst l12 y12 z12
  obtain ⟨rfl, N12q, K12c, Fq12_1, Fq12_0⟩ := hQ12
  have sz0_b17 : h0.size ≤ b17 := Nat.le_trans K2.1 bz_b17
  have K12 : Keep h0 T12.heap [sba] := K9.trans K12c (allS (Or.inr sz0_b17) all0)
  have V12 : Arv Z T12.heap b17 k18 .byte (Int32.ofNat (2 * nq2)) (((([] : List Value) ++ own_wd csa) ++ [(Value.int (nar .byte ((ca >>> ((0 : Int32) &&& 31)).toInt8.toInt32)))]) ++ [(Value.int (nar .byte ((ca >>> ((8 : Int32) &&& 31)).toInt8.toInt32)))]) (.int (0 : Int32)) := Fq12_0
  have N12 := Fr.app N9 N12q
  have F3_13 : Fld Z h9 sba sq2 "value" "[B" (.ref b17) := Fq6_2.other W9 (Or.inr (slot_ne (Or.inl (tw hw 63 rfl)) (Or.inl (tw hw 103 rfl)) (by decide) (t := (.array .byte)) (t' := .int) (by decide) (by decide)))
  have F4_14 : Fld Z T12.heap sba sq2 "value" "[B" (.ref b17) := F3_13.keep K12c (ninS (Nat.ne_of_lt (Nat.lt_of_lt_of_le lt_sba_1 bz_b17)) nin0)
  have F3_15 : Exa Z h9 sba sq4 := Fq6_0.wr W9
  have F4_16 : Exa Z T12.heap sba sq4 := F3_15.keep K12c
  have F3_17 : Fld Z h9 sba sq2 "coder" "B" (.int 1) := Fq6_1.other W9 (Or.inr (slot_ne (Or.inl (tw hw 65 rfl)) (Or.inl (tw hw 103 rfl)) (by decide) (t := .byte) (t' := .int) (by decide) (by decide)))
  have F4_18 : Fld Z T12.heap sba sq2 "coder" "B" (.int 1) := F3_17.keep K12c (ninS (Nat.ne_of_lt (Nat.lt_of_lt_of_le lt_sba_1 bz_b17)) nin0)
  have F4_19 : Fld Z T12.heap sba sq2 "count" "I" (.int (Int32.ofNat (csa.length + 1))) := Fw9.keep K12c (ninS (Nat.ne_of_lt (Nat.lt_of_lt_of_le lt_sba_1 bz_b17)) nin0)
  have F3_20 : Fld Z h9 sba sq2 "maybeLatin1" "Z" (.int 0) := Fq6_4.other W9 (Or.inr (slot_ne (Or.inl (tw hw 275 rfl)) (Or.inl (tw hw 103 rfl)) (by decide) (t := .boolean) (t' := .int) (by decide) (by decide)))
  have F4_21 : Fld Z T12.heap sba sq2 "maybeLatin1" "Z" (.int 0) := F3_20.keep K12c (ninS (Nat.ne_of_lt (Nat.lt_of_lt_of_le lt_sba_1 bz_b17)) nin0)
  obtain ⟨fs, hr, hrun, hended, hW, hsame⟩ := X12.leave (v := some (.ref sba)) (fun h => by rw [hre] at h; cases h)
  refine ⟨_, _, pre0 _ ?_, hrun, hended, _, _, rfl, ?_, ⟨_, rfl⟩, hW, hsame.mono (by decide) (by decide)⟩
  · show SF p e below s₁ (mkF m 0 #[rv sba, iv ca] []) _
    refine XS.aloadN X0.here hx rfl (hb hby d41_0) rfl rfl ?_
    refine XS.aloadN X0.here hx rfl (hb hby d41_1) rfl rfl ?_
    refine st1 _ ?_
    refine XS.iconst X1.here hx rfl (hb hby d41_5) ?_
    refine XS.iadd X1.here hx rfl (hb hby d41_6) rfl ?_
    show SF p e below T1 (mkF m 7 #[rv sba, iv ca] [(.int ((Int32.ofNat csa.length) + (1 : Int32))), (.ref sba)]) _
    rw [(show ((Int32.ofNat csa.length) + (1 : Int32)) = (Int32.ofNat (csa.length + 1)) from own_addk _ 1)]
    refine st2.trans ?_
    refine XS.aloadN X2.here hx rfl (hb hby d41_10) rfl rfl ?_
    refine st3.trans ?_
    refine XS.ifNo X3.here hx rfl (hb hby d41_14) rfl ((if0 _ _).trans (feq (by decide : ¬ ((1 : Int32) = (0 : Int32)))).1) ?_
    refine XS.iloadN X3.here hx rfl (hb hby d41_17) rfl ?_
    refine st4 _ ?_
    refine XS.ifYes X4.here hx rfl (pc0 := 21) (pc' := 45) rfl (hb hby d41_21) rfl ((if0 _ _).trans (teq (by decide : (0 : Int32) = (0 : Int32))).1) (by decide) (by decide) ?_
    refine XS.aloadN X4.here hx rfl (hb hby d41_45) rfl rfl ?_
    refine st5.trans ?_
    refine XS.ifNo X5.here hx rfl (hb hby d41_49) rfl ((if0 _ _).trans (feq (by decide : ¬ ((1 : Int32) = (0 : Int32)))).1) ?_
    refine XS.aloadN X5.here hx rfl (hb hby d41_52) rfl rfl ?_
    refine st6.trans ?_
    refine XS.aloadN X6.here hx rfl (hb hby d41_56) rfl rfl ?_
    refine st7 _ ?_
    refine XS.aloadN X7.here hx rfl (hb hby d41_60) rfl rfl ?_
    refine XS.dup X7.here hx rfl (hb hby d41_61) rfl rfl ?_
    refine st8 _ ?_
    refine XS.dupX1 X8.here hx rfl (hb hby d41_65) rfl rfl rfl ?_
    refine XS.iconst X8.here hx rfl (hb hby d41_66) ?_
    refine XS.iadd X8.here hx rfl (hb hby d41_67) rfl ?_
    show SF p e below T8 (mkF m 68 #[rv sba, iv ca] [(.int ((Int32.ofNat csa.length) + (1 : Int32))), (.ref sba), (.int (Int32.ofNat csa.length)), (.ref b17)]) _
    rw [(show ((Int32.ofNat csa.length) + (1 : Int32)) = (Int32.ofNat (csa.length + 1)) from own_addk _ 1)]
    refine st9 _ ?_
    refine XS.iloadN X9.here hx rfl (hb hby d41_71) rfl ?_
    refine st12 _ ?_
    refine XS.aloadN X12.here hx rfl (hb hby d41_75) rfl rfl ?_
    exact own_retR X12 hx hre rfl rfl (hb hby d41_76) hr
  · show QA Z sba ta (csa ++ [ca]) h0 n0 _ T12.heap _
    have hlen1 : (csa ++ [ca]).length = csa.length + 1 := by simp
    exact ⟨b17, (Or.inr sz0_b17), rfl, N12, (own_kw K12), k18, nq2, (1 : Int32), F4_16, F4_14, F4_18, by rw [hlen1]; exact F4_19, F4_21, Fq12_1, (Ne.symm (Nat.ne_of_lt (Nat.lt_of_lt_of_le lt_sba_1 bz_b17))), P11, g_b17, by rw [hlen1]; omega, by omega, by omega, Or.inr ⟨rfl, (own_wd_snoc csa ca ▸ (show Arv _ _ _ _ _ _ ((own_wd csa ++ [_]) ++ [_]) _ from V12)), ca, List.mem_append.mpr (Or.inr (List.mem_singleton.mpr rfl)), P21⟩⟩
theorem d35_17 : D35 17 (.iconst 0) 1 := by decide +kernel
def Q35_32 (Z : State) (u1 : Addr) (GC : Int32) (h0 : Heap) (n0 : Nat) (v : Option Value) (h : Heap) (L : List Loc) : Prop := v = some (.int 0) ∧ Fr n0 L ∧ h = h0
theorem rm35_32 (l : Launch) (Z : State) (a0 : Array Value) (hw : HW Z a0) (ws : List Jvm.Cond) (u1 : Addr) (GC : Int32) (h0 : Heap) (n0 : Nat) (Z0 : n0 ≤ h0.size) (Sg0 : Sta Z Z.heap sq3 "COMPACT_STRINGS" "Z" (.int GC)) (P2 : Old Z n0 h0) (nzGC : ¬ (GC = (0 : Int32))) (P4 : Fld Z h0 u1 sq2 "coder" "B" (.int 1)) :
    MF l Z mq10 (Jvm.Cond.code mq10 jdk_68_method_68_code 1 (some .boolean)) ws rq0 #[(.ref u1)] h0 (Q35_32 Z u1 GC h0 n0) := by
  refine own_enter (plainFor_of_name pn_4) fun p e s m below meth c s₁ X0 hx hby hml hown hnm hZ e0 hre hlk => ?_
  have N0 := Fr.nil n0
  have pre0 : ∀ t, SF p e below s₁ (mkF m 0 #[rv u1] []) t → SF p e below s₁ (entryFrame m #[(.ref u1)] 1) t := fun t k => castTop (ef_7 m u1) k
  obtain ⟨T1, X1, e1, st1⟩ := getS2 X0 hx hZ hown (host := "") (Or.inl (tw hw 61 rfl)) Via.refl e0 (Sg0.ext P2.2) (g := (mkF m 0 #[rv u1] [])) rfl (hb hby d35_0)
  obtain ⟨T2, X2, e2, st2⟩ := getF X1 hx hZ hown (host := "") (Or.inl (tw hw 64 rfl)) Via.refl e1 P4 (g := (mkF m 7 #[rv u1] [(.ref u1)])) rfl rfl (hb hby d35_7)
  obtain ⟨fs, hr, hrun, hended, hW, hsame⟩ := X2.leave (v := some (.int 0)) (fun h => by rw [hre] at h; cases h)
  refine ⟨_, _, pre0 _ ?_, hrun, hended, _, _, rfl, ?_, ⟨_, rfl⟩, hW, hsame.mono (by decide) (by decide)⟩
  · show SF p e below s₁ (mkF m 0 #[rv u1] []) _
    refine st1 _ ?_
    refine XS.ifNo X1.here hx rfl (hb hby d35_3) rfl ((if0 _ _).trans (feq nzGC).1) ?_
    refine XS.aloadN X1.here hx rfl (hb hby d35_6) rfl rfl ?_
    refine st2 _ ?_
    refine XS.ifYes X2.here hx rfl (pc0 := 10) (pc' := 17) rfl (hb hby d35_10) rfl ((if0 _ _).trans (feq (by decide : ¬ ((1 : Int32) = (0 : Int32)))).2) (by decide) (by decide) ?_
    refine XS.iconst X2.here hx rfl (hb hby d35_17) ?_
    exact retN X2 hx (t := .boolean) hre (by simp) (hb hby d35_18) hr
  · show Q35_32 Z u1 GC h0 n0 _ T2.heap _
    rw [e2]
    exact ⟨rfl, N0, rfl⟩
theorem aacU (l : Launch) (Z : State) (a0 : Array Value) (hw : HW Z a0) (ws : List Jvm.Cond) (sba : Addr) (ca : Int32) (csa : List Int32) (ta : Addr) (kta : ClassId) (nna : Nat) (GC : Int32) (GF : Value) (h0 : Heap) (n0 : Nat) (Z0 : n0 ≤ h0.size) (P1 : Fld Z h0 sba sq2 "count" "I" (.int (Int32.ofNat csa.length))) (P2 : Exa Z h0 sba sq4) (P3 : Fld Z h0 sba sq2 "value" "[B" (.ref ta)) (P4 : Fld Z h0 sba sq2 "coder" "B" (.int 1)) (P5 : Fld Z h0 sba sq2 "maybeLatin1" "Z" (.int 0)) (P6 : Arv Z h0 ta kta .byte (Int32.ofNat (2 * nna)) (own_wd csa) (.int (0 : Int32))) (P7 : St Z GC GF) (P8 : Old Z n0 h0) (P9 : Exa Z h0 ta "[B") (P10 : ta ≠ sba) (P11 : n0 ≤ sba) (P12 : n0 ≤ ta) (P13 : csa.length ≤ nna) (P14 : nna < 13) (P15 : csa.length < 7) (P16 : (csa.length + 1) < 7) (P17 : (csa.length + 1) ≤ nna + 2) (P18 : 0 < nna) (Sg0 : Sta Z Z.heap sq3 "COMPACT_STRINGS" "Z" (.int GC)) (nzGC : ¬ (GC = (0 : Int32))) (Sg1 : Sta Z Z.heap sq6 "SIOOBE_FORMATTER" "Ljava/util/function/BiFunction;" GF) (P22 : ¬ ((Int32.ofNat csa.length) < (0 : Int32))) (rGF : GF.isRef = true) (Sg4 : Sta Z Z.heap sq5 "$assertionsDisabled" "Z" (.int 1)) (Sg5 : Sta Z Z.heap sq5 "HI_BYTE_SHIFT" "I" (.int 0)) (P26 : (((Int32.ofNat csa.length) <<< ((1 : Int32) &&& 31))).toNatClampNeg = (own_wd csa).length) (Sg6 : Sta Z Z.heap sq5 "LO_BYTE_SHIFT" "I" (.int 8)) (P28 : ((((Int32.ofNat csa.length) <<< ((1 : Int32) &&& 31)) + (1 : Int32))).toNatClampNeg = ((own_wd csa) ++ [(Value.int (nar .byte ((ca >>> ((0 : Int32) &&& 31)).toInt8.toInt32)))]).length) (hex : ∃ c ∈ csa, (255 : Int32) < c) :
    MF l Z mq4 (Jvm.Cond.code mq4 jdk_68_method_31_code 2 (some (.object sq2))) ws rq23 #[(.ref sba), (.int ca)] h0 (QA Z sba ta (csa ++ [ca]) h0 n0) := by
  refine own_enter (plainFor_of_name pn_4) fun p e s m below meth c s₁ X0 hx hby hml hown hnm hZ e0 hre hlk => ?_
  have N0 := Fr.nil n0
  have pre0 : ∀ t, SF p e below s₁ (mkF m 0 #[rv sba, iv ca] []) t → SF p e below s₁ (entryFrame m #[(.ref sba), (.int ca)] 2) t := fun t k => castTop (ef_22 m sba ca) k
  obtain ⟨T1, X1, e1, st1⟩ := getF X0 hx hZ hown (host := "") (Or.inl (tw hw 102 rfl)) Via.refl e0 P1 (g := (mkF m 2 #[rv sba, iv ca] [(.ref sba), (.ref sba)])) rfl rfl (hb hby d41_2)
  obtain ⟨cq2, q2, q2'⟩ := P2.cell
  obtain ⟨_, _, ⟨T2, L2, k2x, n2⟩, -, X2, ⟨Lc2, hQ2, l2, y2, z2⟩, st2⟩ := X1.privateBack hx (y := mq6) hown (mvT hZ (tw hw 104 rfl)) (mvT hZ (tw hw 105 rfl)) (own_selR hZ (tw hw 107 rfl) (tw hw 106 rfl) (tw hw 105 rfl) (by decide)) (Cond.privateMethod_at (mvP hZ (tw hw 106 rfl) (args := #[]))) (mvT hZ (tw hw 108 rfl)) (by decide) (backOf (W := 0) (ens1 l Z a0 hw [] GC GF sba ta kta nna (csa.length + 1) csa h0 n0 Z0 P7 P8 P2 P3 P4 P1 P5 P9 P6 P10 P11 P12 P13 P14 P15 P16 P17 P18) hZ (tw hw 108 rfl) (tw hw 58 rfl) (by decide) (by decide)) (g := (mkF m 7 #[rv sba, iv ca] [(.int (Int32.ofNat (csa.length + 1))), (.ref sba)])) rfl (by rw [hml]; rfl) (Steps.refl _) (a := sba) (by rw [e1]; exact q2) q2' (argsL := [(.int (Int32.ofNat (csa.length + 1)))]) (rest := []) (lenOf pd_14 rfl) rfl (Nat.le_of_eq rfl) (hb hby d41_7) (fun _ _ => ⟨rfl, e1, (by decide : 0 + 1 ≤ _), (by decide : 0 + 24 ≤ _)⟩)
  dsimp only [Pt.U, Pt.locs, Pt.cells, Pt.slots] at X2 l2 y2 z2 st2 hQ2
  subst l2 y2 z2
  obtain ⟨b19, k20, nq2, hor2, hne2, hgt2, hmi2, hnq2, rfl, N2q, K2c, Fq2_0, Fq2_1, Fq2_2, Fq2_3, Fq2_4, Fq2_5, Fq2_6⟩ := hQ2
  have K2 : Keep h0 T2.heap [sba, ta] := (Keep.refl h0 [sba, ta]).trans K2c (allS (Or.inl (List.mem_of_getElem? (i := 0) rfl)) all0)
  have N2 := Fr.app N0 N2q
  have O2 : Old Z n0 T2.heap := P8.keep K2c (allS P11 all0)
  have Z2 : n0 ≤ T2.heap.size := Nat.le_trans Z0 K2c.1
  obtain ⟨cq3, kq3, q3a, q3b, q3c⟩ := isOf hZ rfl Fq2_0
  obtain ⟨_, _, ⟨T3, L3, k3x, n3⟩, -, X3, ⟨Lc3, hQ3, l3, y3, z3⟩, st3⟩ := X2.virtualBack hx (y := mq10) (z := mq10) hown (mvT hZ (tw hw 205 rfl)) (mvT hZ (tw hw 178 rfl)) (notFace_of_selects (args := #[]) (mvT hZ (tw hw 180 rfl))) (mvT hZ (tw hw 180 rfl)) (mvT hZ (tw hw 179 rfl)) (by decide) (backOf (W := 0) (rm35_32 l Z a0 hw [] sba GC T2.heap n0 Z2 Sg0 O2 nzGC Fq2_2) hZ (tw hw 181 rfl) (tw hw 58 rfl) (by decide) (by decide)) q3a q3c (g := (mkF m 11 #[rv sba, iv ca] [(.ref sba)])) rfl (by rw [hml]; rfl) (Steps.refl _) (argsL := []) (rest := []) (lenOf pd_6 rfl) rfl (Nat.le_of_eq rfl) (hb hby d41_11) (fun _ _ => ⟨rfl, rfl, (by decide : 1 + 0 ≤ _), (by decide : 24 + 0 ≤ _)⟩)
  dsimp only [Pt.U, Pt.locs, Pt.cells, Pt.slots] at X3 l3 y3 z3 st3 hQ3
  subst l3 y3 z3
  obtain ⟨rfl, N3q, e3⟩ := hQ3
  have N3 := Fr.app N2 N3q
  obtain ⟨cq4, kq4, q4a, q4b, q4c⟩ := isOf hZ e3 Fq2_0
  obtain ⟨_, _, ⟨T4, L4, k4x, n4⟩, -, X4, ⟨Lc4, hQ4, l4, y4, z4⟩, st4⟩ := X3.virtualBack hx (y := mq10) (z := mq10) hown (mvT hZ (tw hw 205 rfl)) (mvT hZ (tw hw 178 rfl)) (notFace_of_selects (args := #[]) (mvT hZ (tw hw 180 rfl))) (mvT hZ (tw hw 180 rfl)) (mvT hZ (tw hw 179 rfl)) (by decide) (backOf (W := 0) (rm35_32 l Z a0 hw [] sba GC T2.heap n0 Z2 Sg0 O2 nzGC Fq2_2) hZ (tw hw 181 rfl) (tw hw 58 rfl) (by decide) (by decide)) q4a q4c (g := (mkF m 46 #[rv sba, iv ca] [(.ref sba)])) rfl (by rw [hml]; rfl) (Steps.refl _) (argsL := []) (rest := []) (lenOf pd_6 rfl) rfl (Nat.le_of_eq rfl) (hb hby d41_46) (fun _ _ => ⟨rfl, e3, (by decide : 1 + 0 ≤ _), (by decide : 24 + 0 ≤ _)⟩)
  dsimp only [Pt.U, Pt.locs, Pt.cells, Pt.slots] at X4 l4 y4 z4 st4 hQ4
  subst l4 y4 z4
  obtain ⟨rfl, N4q, e4⟩ := hQ4
  have N4 := Fr.app N3 N4q
  obtain ⟨T5, X5, e5, st5⟩ := getF X4 hx hZ hown (host := "") (Or.inl (tw hw 62 rfl)) Via.refl e4 Fq2_1 (g := (mkF m 57 #[rv sba, iv ca] [(.ref sba)])) rfl rfl (hb hby d41_57)
  obtain ⟨T6, X6, e6, st6⟩ := getF X5 hx hZ hown (host := "") (Or.inl (tw hw 102 rfl)) Via.refl e5 Fq2_3 (g := (mkF m 62 #[rv sba, iv ca] [(.ref sba), (.ref sba), (.ref b19)])) rfl rfl (hb hby d41_62)
  obtain ⟨T7, h7, X7, e7, W7, st7⟩ := putF X6 hx hZ hown (host := "") (Or.inl (tw hw 102 rfl)) Via.refl e6 Fq2_3 Fq2_0 (Or.inl (tw hw 103 rfl)) (tw hw 39 rfl) (ty := .int) (by decide) rfl rfl (g := (mkF m 68 #[rv sba, iv ca] [(.int (Int32.ofNat (csa.length + 1))), (.ref sba), (.int (Int32.ofNat csa.length)), (.ref b19)])) rfl rfl (hb hby d41_68)
  have K7 : Keep h0 h7 [sba, ta] := K2.wr W7 (Or.inl (List.mem_of_getElem? (i := 0) rfl))
  have N7 := Fr.snoc X7 N4 P11
  have Fw7 : Fld Z h7 sba sq2 "count" "I" (.int (Int32.ofNat (csa.length + 1))) := Fq2_3.same W7
  have F2_8 : Arv Z h7 b19 k20 .byte (Int32.ofNat (2 * nq2)) (own_wd csa) (.int (0 : Int32)) := Fq2_6.other W7 hne2
  have F2_9 : Exa Z h7 b19 "[B" := Fq2_5.wr W7
  have O7 : Old Z n0 h7 := O2.wr W7 P11
  have Z7 : n0 ≤ h7.size := Nat.le_trans Z2 (Keep.of_wr W7).1
  obtain ⟨_, _, ⟨T10, L10, k10x, n10⟩, -, X10, ⟨Lc10, hQ10, l10, y10, z10⟩, st10⟩ := Jvm.LawKit.callS X7 hx (y := mq46) hown (mvT hZ (tw hw 271 rfl)) (mvT hZ (tw hw 272 rfl)) (mvT hZ (tw hw 21 rfl)) (mvT hZ (tw hw 273 rfl)) (by decide) (backOf (W := 0) (rm57_29 l Z a0 hw [] b19 (Int32.ofNat csa.length) ca k20 (Int32.ofNat (2 * nq2)) (own_wd csa) GF h7 n0 Z7 F2_8 Sg1 O7 P22 ((own_all2 7 13 (C := fun q nq => (q + 1 ≤ nq)) (P := fun q nq => (Int32.ofNat q) < ((Int32.ofNat (2 * nq)) >>> ((1 : Int32) &&& 31))) (by decide +kernel) csa.length P15 nq2 hnq2 hmi2)) rGF F2_9 Sg4 Sg5 ((own_all2 7 13 (C := fun q nq => (q + 1 ≤ nq)) (P := fun q nq => ¬ ((Int32.ofNat q) <<< ((1 : Int32) &&& 31)) < 0 ∧ ((Int32.ofNat q) <<< ((1 : Int32) &&& 31)) < (Int32.ofNat (2 * nq))) (by decide +kernel) csa.length P15 nq2 hnq2 hmi2)) hgt2 P26 Sg6 ((own_all2 7 13 (C := fun q nq => (q + 1 ≤ nq)) (P := fun q nq => ¬ (((Int32.ofNat q) <<< ((1 : Int32) &&& 31)) + (1 : Int32)) < 0 ∧ (((Int32.ofNat q) <<< ((1 : Int32) &&& 31)) + (1 : Int32)) < (Int32.ofNat (2 * nq))) (by decide +kernel) csa.length P15 nq2 hnq2 hmi2)) P28) hZ (tw hw 273 rfl) (tw hw 21 rfl) (by decide) (by decide)) (g := (mkF m 72 #[rv sba, iv ca] [(.int ca), (.int (Int32.ofNat csa.length)), (.ref b19)])) rfl (by rw [hml]; rfl) (argsL := [(.ref b19), (.int (Int32.ofNat csa.length)), (.int ca)]) (rest := []) (lenOf pd_0 rfl) rfl (Nat.le_of_eq rfl) (hb hby d41_72) (fun _ _ => ⟨rfl, e7, (by decide : 1 + 0 ≤ _), (by decide : 24 + 0 ≤ _)⟩)
  dsimp only [Pt.U, Pt.locs, Pt.cells, Pt.slots] at X10 l10 y10 z10 st10 hQ10
  subst l10 y10 z10
  obtain ⟨rfl, N10q, K10c, Fq10_1, Fq10_0⟩ := hQ10
  have K10 : Keep h0 T10.heap [sba, ta] := K7.trans K10c (allS (own_or hor2 (List.mem_of_getElem? (i := 1) rfl) (Keep.refl h0 [sba, ta]).1) all0)
  have V10 : Arv Z T10.heap b19 k20 .byte (Int32.ofNat (2 * nq2)) (((own_wd csa) ++ [(Value.int (nar .byte ((ca >>> ((0 : Int32) &&& 31)).toInt8.toInt32)))]) ++ [(Value.int (nar .byte ((ca >>> ((8 : Int32) &&& 31)).toInt8.toInt32)))]) (.int (0 : Int32)) := Fq10_0
  have N10 := Fr.app N7 N10q
  have F2_11 : Fld Z h7 sba sq2 "value" "[B" (.ref b19) := Fq2_1.other W7 (Or.inr (slot_ne (Or.inl (tw hw 63 rfl)) (Or.inl (tw hw 103 rfl)) (by decide) (t := (.array .byte)) (t' := .int) (by decide) (by decide)))
  have F3_12 : Fld Z T10.heap sba sq2 "value" "[B" (.ref b19) := F2_11.keep K10c (ninS (Ne.symm hne2) nin0)
  have F2_13 : Exa Z h7 sba sq4 := Fq2_0.wr W7
  have F3_14 : Exa Z T10.heap sba sq4 := F2_13.keep K10c
  have F2_15 : Fld Z h7 sba sq2 "coder" "B" (.int 1) := Fq2_2.other W7 (Or.inr (slot_ne (Or.inl (tw hw 65 rfl)) (Or.inl (tw hw 103 rfl)) (by decide) (t := .byte) (t' := .int) (by decide) (by decide)))
  have F3_16 : Fld Z T10.heap sba sq2 "coder" "B" (.int 1) := F2_15.keep K10c (ninS (Ne.symm hne2) nin0)
  have F3_17 : Fld Z T10.heap sba sq2 "count" "I" (.int (Int32.ofNat (csa.length + 1))) := Fw7.keep K10c (ninS (Ne.symm hne2) nin0)
  have F2_18 : Fld Z h7 sba sq2 "maybeLatin1" "Z" (.int 0) := Fq2_4.other W7 (Or.inr (slot_ne (Or.inl (tw hw 275 rfl)) (Or.inl (tw hw 103 rfl)) (by decide) (t := .boolean) (t' := .int) (by decide) (by decide)))
  have F3_19 : Fld Z T10.heap sba sq2 "maybeLatin1" "Z" (.int 0) := F2_18.keep K10c (ninS (Ne.symm hne2) nin0)
  obtain ⟨fs, hr, hrun, hended, hW, hsame⟩ := X10.leave (v := some (.ref sba)) (fun h => by rw [hre] at h; cases h)
  refine ⟨_, _, pre0 _ ?_, hrun, hended, _, _, rfl, ?_, ⟨_, rfl⟩, hW, hsame.mono (by decide) (by decide)⟩
  · show SF p e below s₁ (mkF m 0 #[rv sba, iv ca] []) _
    refine XS.aloadN X0.here hx rfl (hb hby d41_0) rfl rfl ?_
    refine XS.aloadN X0.here hx rfl (hb hby d41_1) rfl rfl ?_
    refine st1 _ ?_
    refine XS.iconst X1.here hx rfl (hb hby d41_5) ?_
    refine XS.iadd X1.here hx rfl (hb hby d41_6) rfl ?_
    show SF p e below T1 (mkF m 7 #[rv sba, iv ca] [(.int ((Int32.ofNat csa.length) + (1 : Int32))), (.ref sba)]) _
    rw [(show ((Int32.ofNat csa.length) + (1 : Int32)) = (Int32.ofNat (csa.length + 1)) from own_addk _ 1)]
    refine st2.trans ?_
    refine XS.aloadN X2.here hx rfl (hb hby d41_10) rfl rfl ?_
    refine st3.trans ?_
    refine XS.ifYes X3.here hx rfl (pc0 := 14) (pc' := 45) rfl (hb hby d41_14) rfl ((if0 _ _).trans (teq (by decide : (0 : Int32) = (0 : Int32))).1) (by decide) (by decide) ?_
    refine XS.aloadN X3.here hx rfl (hb hby d41_45) rfl rfl ?_
    refine st4.trans ?_
    refine XS.ifYes X4.here hx rfl (pc0 := 49) (pc' := 56) rfl (hb hby d41_49) rfl ((if0 _ _).trans (teq (by decide : (0 : Int32) = (0 : Int32))).1) (by decide) (by decide) ?_
    refine XS.aloadN X4.here hx rfl (hb hby d41_56) rfl rfl ?_
    refine st5 _ ?_
    refine XS.aloadN X5.here hx rfl (hb hby d41_60) rfl rfl ?_
    refine XS.dup X5.here hx rfl (hb hby d41_61) rfl rfl ?_
    refine st6 _ ?_
    refine XS.dupX1 X6.here hx rfl (hb hby d41_65) rfl rfl rfl ?_
    refine XS.iconst X6.here hx rfl (hb hby d41_66) ?_
    refine XS.iadd X6.here hx rfl (hb hby d41_67) rfl ?_
    show SF p e below T6 (mkF m 68 #[rv sba, iv ca] [(.int ((Int32.ofNat csa.length) + (1 : Int32))), (.ref sba), (.int (Int32.ofNat csa.length)), (.ref b19)]) _
    rw [(show ((Int32.ofNat csa.length) + (1 : Int32)) = (Int32.ofNat (csa.length + 1)) from own_addk _ 1)]
    refine st7 _ ?_
    refine XS.iloadN X7.here hx rfl (hb hby d41_71) rfl ?_
    refine st10 _ ?_
    refine XS.aloadN X10.here hx rfl (hb hby d41_75) rfl rfl ?_
    exact own_retR X10 hx hre rfl rfl (hb hby d41_76) hr
  · show QA Z sba ta (csa ++ [ca]) h0 n0 _ T10.heap _
    have hlen1 : (csa ++ [ca]).length = csa.length + 1 := by simp
    exact ⟨b19, hor2, rfl, N10, K10, k20, nq2, (1 : Int32), F3_14, F3_12, F3_16, by rw [hlen1]; exact F3_17, F3_19, Fq10_1, hne2, P11, hgt2, by rw [hlen1]; omega, by omega, by omega, Or.inr ⟨rfl, (own_wd_snoc csa ca ▸ V10), hex.choose, List.mem_append.mpr (Or.inl hex.choose_spec.1), hex.choose_spec.2⟩⟩
theorem aac (l : Launch) (Z : State) (a0 : Array Value) (hw : HW Z a0) (ws : List Jvm.Cond) (GC : Int32) (GF : Value) (sba ta : Addr) (csa : List Int32) (ca : Int32) (h0 : Heap) (n0 : Nat) (Z0 : n0 ≤ h0.size) (S : St Z GC GF) (O : Old Z n0 h0) (B : Bld Z h0 n0 1 sba ta csa) (hc : ∀ c ∈ csa, ¬ c < 0) (hk : csa.length < 6) :
    MF l Z mq4 (Jvm.Cond.code mq4 jdk_68_method_31_code 2 (some (.object sq2))) ws rq23 #[(.ref sba), (.int ca)] h0 (QA Z sba ta (csa ++ [ca]) h0 n0) := by
  obtain ⟨k, n, cd, Eb, Fv, Fc, Fn, Fm, Et, ne, gs, gt, hkn, hn1, hn, hor⟩ := B
  rcases hor with ⟨rfl, At, hall⟩ | ⟨rfl, At, hex⟩
  · by_cases h255 : (255 : Int32) < ca
    · exact aacW l Z a0 hw ws sba ca csa ta k n GC GF h0 n0 Z0 Fn Eb Fv Fc Fm At S O Et ne gs gt (by omega) (by omega) (by omega) (by omega) (by omega) (by omega) S.1 S.2.2.2.1 h255 (fun c q => ⟨hc c q, hall c q⟩) Eb.lt S.2.1 (((by decide +kernel : ∀ q < 7, ((¬ ((Int32.ofNat q) < (0 : Int32))) ∧ True)) csa.length (by omega)).1) S.2.2.1 S.2.2.2.2.1 S.2.2.2.2.2.1 (by simp only [List.nil_append, List.length_append, own_wd_len]; exact ((by decide +kernel : ∀ q < 7, (((((Int32.ofNat q) <<< ((1 : Int32) &&& 31))).toNatClampNeg = 2 * q) ∧ True)) csa.length (by omega)).1) S.2.2.2.2.2.2 (by simp only [List.nil_append, List.length_append, own_wd_len]; exact ((by decide +kernel : ∀ q < 7, ((((((Int32.ofNat q) <<< ((1 : Int32) &&& 31)) + (1 : Int32))).toNatClampNeg = (2 * q + 1)) ∧ True)) csa.length (by omega)).1)
    · exact aacL l Z a0 hw ws sba ca csa ta k n GC GF h0 n0 Z0 Fn Eb Fv Fc Fm At S O Et ne gs gt (by omega) (by omega) (by omega) (by omega) (by omega) (by omega) S.1 S.2.2.2.1 h255 (by simp only [List.nil_append, List.length_append, own_lo_len]; exact ((by decide +kernel : ∀ q < 7, ((((Int32.ofNat q)).toNatClampNeg = q) ∧ True)) csa.length (by omega)).1) hall
  · exact aacU l Z a0 hw ws sba ca csa ta k n GC GF h0 n0 Z0 Fn Eb Fv Fc Fm At S O Et ne gs gt (by omega) (by omega) (by omega) (by omega) (by omega) (by omega) S.1 S.2.2.2.1 S.2.1 (((by decide +kernel : ∀ q < 7, ((¬ ((Int32.ofNat q) < (0 : Int32))) ∧ True)) csa.length (by omega)).1) S.2.2.1 S.2.2.2.2.1 S.2.2.2.2.2.1 (by simp only [List.nil_append, List.length_append, own_wd_len]; exact ((by decide +kernel : ∀ q < 7, (((((Int32.ofNat q) <<< ((1 : Int32) &&& 31))).toNatClampNeg = 2 * q) ∧ True)) csa.length (by omega)).1) S.2.2.2.2.2.2 (by simp only [List.nil_append, List.length_append, own_wd_len]; exact ((by decide +kernel : ∀ q < 7, ((((((Int32.ofNat q) <<< ((1 : Int32) &&& 31)) + (1 : Int32))).toNatClampNeg = (2 * q + 1)) ∧ True)) csa.length (by omega)).1) hex
abbrev D40 (n : Nat) (i : Instr) (k : Nat) : Prop := decode jdk_67_method_14_code n = .ok (i, k)
theorem d40_0 : D40 0 (.aload_n 0) 1 := by decide +kernel
theorem d40_1 : D40 1 (.iload_n 1) 1 := by decide +kernel
theorem d40_2 : D40 2 (.invokespecial 50) 3 := by decide +kernel
theorem pd_17 : parseMethodDescriptor "(C)Ljava/lang/AbstractStringBuilder;" = some ⟨[.char], some (.object sq2)⟩ := by decide +kernel
theorem d40_5 : D40 5 (.pop) 1 := by decide +kernel
theorem d40_6 : D40 6 (.aload_n 0) 1 := by decide +kernel
theorem d40_7 : D40 7 (.areturn) 1 := by decide +kernel
theorem ef_23 (m : MethodId) (x0 : Addr) (x1 : Int32) : entryFrame m #[(.ref x0), (.int x1)] 2 = mkF m 0 #[.val (.ref x0), .val (.int x1)] [] := by first | (simp [entryFrame, mkF, argsToLocals, Value.category]; done) | rfl
theorem pn_7 : plainName sq4 = true := by first | (simp [plainName, overriddenIn]; done) | decide +kernel
theorem sbc0 (l : Launch) (Z : State) (a0 : Array Value) (hw : HW Z a0) (ws : List Jvm.Cond) (sba : Addr) (ca : Int32) (ta : Addr) (csa : List Int32) (GC : Int32) (GF : Value) (h0 : Heap) (n0 : Nat) (Z0 : n0 ≤ h0.size) (P1 : Bld Z h0 n0 1 sba ta csa) (P2 : St Z GC GF) (P3 : Old Z n0 h0) (P4 : ∀ c ∈ csa, ¬ c < 0) (P5 : csa.length < 6) (P6 : Exa Z h0 sba sq4) :
    MF l Z mq28 (Jvm.Cond.code mq28 jdk_67_method_14_code 2 (some (.object sq4))) ws rq25 #[(.ref sba), (.int ca)] h0 (QA Z sba ta (csa ++ [ca]) h0 n0) := by
  refine own_enter (plainFor_of_name pn_7) fun p e s m below meth c s₁ X0 hx hby hml hown hnm hZ e0 hre hlk => ?_
  have N0 := Fr.nil n0
  have pre0 : ∀ t, SF p e below s₁ (mkF m 0 #[rv sba, iv ca] []) t → SF p e below s₁ (entryFrame m #[(.ref sba), (.int ca)] 2) t := fun t k => castTop (ef_23 m sba ca) k
  obtain ⟨_, _, ⟨T1, L1, k1x, n1⟩, -, X1, ⟨Lc1, hQ1, l1, y1, z1⟩, st1⟩ := superBack X0 hx hZ (y := mq4) hown (tw hw 201 rfl) (own_same (y := mq4) (n' := "ensureCapacityInternal") (d' := "(I)V") (tw hw 107 rfl) (tw hw 202 rfl) (by decide)) (tw hw 202 rfl) (tw hw 98 rfl) (by decide) (backOf (W := 0) (aac l Z a0 hw [] GC GF sba ta csa ca h0 n0 Z0 P2 P3 P1 P4 P5) hZ (tw hw 204 rfl) (tw hw 58 rfl) (by decide) (by decide)) e0 (Ins.self P6) (g := (mkF m 2 #[rv sba, iv ca] [(.int ca), (.ref sba)])) rfl (by rw [hml]; rfl) (tw hw 204 rfl) (argsL := [(.int ca)]) (rest := []) (lenOf pd_17 rfl) rfl (Nat.le_of_eq rfl) (hb hby d40_2) (fun _ _ => ⟨rfl, e0, (by decide : 0 + 2 ≤ _), (by decide : 0 + 48 ≤ _)⟩)
  dsimp only [Pt.U, Pt.locs, Pt.cells, Pt.slots] at X1 l1 y1 z1 st1 hQ1
  subst l1 y1 z1
  obtain ⟨tq, hor, rfl, N1q, K1c, Bq⟩ := hQ1
  have K1 : Keep h0 T1.heap [sba, ta] := (Keep.refl h0 [sba, ta]).trans K1c (allS (Or.inl (List.mem_of_getElem? (i := 0) rfl)) (allS (Or.inl (List.mem_of_getElem? (i := 1) rfl)) all0))
  have N1 := Fr.app N0 N1q
  obtain ⟨fs, hr, hrun, hended, hW, hsame⟩ := X1.leave (v := some (.ref sba)) (fun h => by rw [hre] at h; cases h)
  refine ⟨_, _, pre0 _ ?_, hrun, hended, _, _, rfl, ?_, ⟨_, rfl⟩, hW, hsame.mono (by decide) (by decide)⟩
  · show SF p e below s₁ (mkF m 0 #[rv sba, iv ca] []) _
    refine XS.aloadN X0.here hx rfl (hb hby d40_0) rfl rfl ?_
    refine XS.iloadN X0.here hx rfl (hb hby d40_1) rfl ?_
    refine st1.trans ?_
    refine XS.pop X1.here hx rfl (hb hby d40_5) rfl rfl ?_
    refine XS.aloadN X1.here hx rfl (hb hby d40_6) rfl rfl ?_
    exact own_retR X1 hx hre rfl rfl (hb hby d40_7) hr
  · show QA Z sba ta (csa ++ [ca]) h0 n0 _ T1.heap _
    exact ⟨tq, hor, rfl, N1, K1, Bq⟩
theorem sbc (l : Launch) (Z : State) (a0 : Array Value) (hw : HW Z a0) (ws : List Jvm.Cond) (GC : Int32) (GF : Value) (sba ta : Addr) (csa : List Int32) (ca : Int32) (h0 : Heap) (n0 : Nat) (Z0 : n0 ≤ h0.size) (S : St Z GC GF) (O : Old Z n0 h0) (B : Bld Z h0 n0 1 sba ta csa) (hc : ∀ c ∈ csa, ¬ c < 0) (hk : csa.length < 6) :
    MF l Z mq28 (Jvm.Cond.code mq28 jdk_67_method_14_code 2 (some (.object sq4))) ws rq25 #[(.ref sba), (.int ca)] h0 (QA Z sba ta (csa ++ [ca]) h0 n0) := sbc0 l Z a0 hw ws sba ca ta csa GC GF h0 n0 Z0 B S O hc hk (B.choose_spec.choose_spec.choose_spec.1)
abbrev D19 (n : Nat) (i : Instr) (k : Nat) : Prop := decode jdk_68_method_22_code n = .ok (i, k)
theorem d19_0 : D19 0 (.aload_n 1) 1 := by decide +kernel
theorem d19_1 : D19 1 (.ifnonnull 8) 3 := by decide +kernel
theorem d19_9 : D19 9 (.aload_n 1) 1 := by decide +kernel
theorem d19_10 : D19 10 (.invokevirtual 32) 3 := by decide +kernel
abbrev D9 (n : Nat) (i : Instr) (k : Nat) : Prop := decode jdk_42_method_54_code n = .ok (i, k)
theorem d9_0 : D9 0 (.aload_n 0) 1 := by decide +kernel
theorem d9_1 : D9 1 (.getfield 9) 3 := by decide +kernel
theorem d9_4 : D9 4 (.arraylength) 1 := by decide +kernel
theorem d9_5 : D9 5 (.aload_n 0) 1 := by decide +kernel
theorem d9_6 : D9 6 (.invokevirtual 335) 3 := by decide +kernel
abbrev D10 (n : Nat) (i : Instr) (k : Nat) : Prop := decode jdk_42_method_152_code n = .ok (i, k)
theorem d10_0 : D10 0 (.getstatic 38) 3 := by decide +kernel
theorem d10_3 : D10 3 (.ifCond .eq 10) 3 := by decide +kernel
theorem d10_6 : D10 6 (.aload_n 0) 1 := by decide +kernel
theorem d10_7 : D10 7 (.getfield 15) 3 := by decide +kernel
theorem d10_10 : D10 10 (.goto 4) 3 := by decide +kernel
theorem d10_14 : D10 14 (.ireturn) 1 := by decide +kernel
theorem ef_24 (m : MethodId) (x0 : Addr) : entryFrame m #[(.ref x0)] 1 = mkF m 0 #[.val (.ref x0)] [] := by first | (simp [entryFrame, mkF, argsToLocals, Value.category]; done) | rfl
def Q10_33 (Z : State) (u1 : Addr) (GC : Int32) (h0 : Heap) (n0 : Nat) (v : Option Value) (h : Heap) (L : List Loc) : Prop := v = some (.int 0) ∧ Fr n0 L ∧ h = h0
theorem rm10_33 (l : Launch) (Z : State) (a0 : Array Value) (hw : HW Z a0) (ws : List Jvm.Cond) (u1 : Addr) (GC : Int32) (h0 : Heap) (n0 : Nat) (Z0 : n0 ≤ h0.size) (Sg0 : Sta Z Z.heap sq3 "COMPACT_STRINGS" "Z" (.int GC)) (P2 : Old Z n0 h0) (nzGC : ¬ (GC = (0 : Int32))) (P4 : Fld Z h0 u1 sq3 "coder" "B" (.int 0)) :
    MF l Z mq23 (Jvm.Cond.code mq23 jdk_42_method_152_code 1 (some .byte)) ws rq0 #[(.ref u1)] h0 (Q10_33 Z u1 GC h0 n0) := by
  refine own_enter (plainFor_of_name pn_2) fun p e s m below meth c s₁ X0 hx hby hml hown hnm hZ e0 hre hlk => ?_
  have N0 := Fr.nil n0
  have pre0 : ∀ t, SF p e below s₁ (mkF m 0 #[rv u1] []) t → SF p e below s₁ (entryFrame m #[(.ref u1)] 1) t := fun t k => castTop (ef_24 m u1) k
  obtain ⟨T1, X1, e1, st1⟩ := getS2 X0 hx hZ hown (host := "") (Or.inl (tw hw 18 rfl)) Via.refl e0 (Sg0.ext P2.2) (g := (mkF m 0 #[rv u1] [])) rfl (hb hby d10_0)
  obtain ⟨T2, X2, e2, st2⟩ := getF X1 hx hZ hown (host := "") (Or.inl (tw hw 30 rfl)) Via.refl e1 P4 (g := (mkF m 7 #[rv u1] [(.ref u1)])) rfl rfl (hb hby d10_7)
  obtain ⟨fs, hr, hrun, hended, hW, hsame⟩ := X2.leave (v := some (.int 0)) (fun h => by rw [hre] at h; cases h)
  refine ⟨_, _, pre0 _ ?_, hrun, hended, _, _, rfl, ?_, ⟨_, rfl⟩, hW, hsame.mono (by decide) (by decide)⟩
  · show SF p e below s₁ (mkF m 0 #[rv u1] []) _
    refine st1 _ ?_
    refine XS.ifNo X1.here hx rfl (hb hby d10_3) rfl ((if0 _ _).trans (feq nzGC).1) ?_
    refine XS.aloadN X1.here hx rfl (hb hby d10_6) rfl rfl ?_
    refine st2 _ ?_
    refine XS.goto X2.here hx rfl (pc0 := 10) (pc' := 14) rfl (hb hby d10_10) (by decide) (by decide) ?_
    exact retN X2 hx (t := .byte) hre (by simp) (hb hby d10_14) hr
  · show Q10_33 Z u1 GC h0 n0 _ T2.heap _
    rw [e2]
    exact ⟨rfl, N0, rfl⟩
theorem pd_18 : parseMethodDescriptor "()B" = some ⟨[], some .byte⟩ := by decide +kernel
theorem d9_9 : D9 9 (.ishr) 1 := by decide +kernel
theorem d9_10 : D9 10 (.ireturn) 1 := by decide +kernel
theorem ef_25 (m : MethodId) (x0 : Addr) : entryFrame m #[(.ref x0)] 1 = mkF m 0 #[.val (.ref x0)] [] := by first | (simp [entryFrame, mkF, argsToLocals, Value.category]; done) | rfl
def Q9_34 (Z : State) (u1 : Addr) (u2 : Addr) (u3 : ClassId) (u4 : Int32) (u5 : Int32) (GC : Int32) (h0 : Heap) (n0 : Nat) (v : Option Value) (h : Heap) (L : List Loc) : Prop := v = some (.int 2) ∧ Fr n0 L ∧ h = h0
theorem rm9_34 (l : Launch) (Z : State) (a0 : Array Value) (hw : HW Z a0) (ws : List Jvm.Cond) (u1 : Addr) (u2 : Addr) (u3 : ClassId) (u4 : Int32) (u5 : Int32) (GC : Int32) (h0 : Heap) (n0 : Nat) (Z0 : n0 ≤ h0.size) (P1 : Fld Z h0 u1 sq3 "value" "[B" (.ref u2)) (P2 : Arv Z h0 u2 u3 .byte (2 : Int32) (own_lo [u4, u5]) (.int (0 : Int32))) (P3 : Exa Z h0 u1 sq3) (Sg0 : Sta Z Z.heap sq3 "COMPACT_STRINGS" "Z" (.int GC)) (P5 : Old Z n0 h0) (nzGC : ¬ (GC = (0 : Int32))) (P7 : Fld Z h0 u1 sq3 "coder" "B" (.int 0)) :
    MF l Z mq26 (Jvm.Cond.code mq26 jdk_42_method_54_code 1 (some .int)) ws rq3 #[(.ref u1)] h0 (Q9_34 Z u1 u2 u3 u4 u5 GC h0 n0) := by
  refine own_enter (plainFor_of_name pn_2) fun p e s m below meth c s₁ X0 hx hby hml hown hnm hZ e0 hre hlk => ?_
  have N0 := Fr.nil n0
  have pre0 : ∀ t, SF p e below s₁ (mkF m 0 #[rv u1] []) t → SF p e below s₁ (entryFrame m #[(.ref u1)] 1) t := fun t k => castTop (ef_25 m u1) k
  obtain ⟨T1, X1, e1, st1⟩ := getF X0 hx hZ hown (host := "") (Or.inl (tw hw 32 rfl)) Via.refl e0 P1 (g := (mkF m 1 #[rv u1] [(.ref u1)])) rfl rfl (hb hby d9_1)
  obtain ⟨cl2, Ar2, q2, S2, N2z, H2, G2⟩ := id P2
  obtain ⟨cq3, kq3, q3a, q3b, q3c⟩ := isOf hZ e1 P3
  obtain ⟨_, _, ⟨T3, L3, k3x, n3⟩, -, X3, ⟨Lc3, hQ3, l3, y3, z3⟩, st3⟩ := X1.virtualBack hx (y := mq23) (z := mq23) hown (mvT hZ (tw hw 46 rfl)) (mvT hZ (tw hw 47 rfl)) (notFace_of_selects (args := #[]) (mvT hZ (tw hw 49 rfl))) (mvT hZ (tw hw 49 rfl)) (mvT hZ (tw hw 48 rfl)) (by decide) (backOf (W := 1) (rm10_33 l Z a0 hw [] u1 GC h0 n0 Z0 Sg0 P5 nzGC P7) hZ (tw hw 50 rfl) (tw hw 6 rfl) (by decide) (by decide)) q3a q3c (g := (mkF m 6 #[rv u1] [(.ref u1), (.int 2)])) rfl (by rw [hml]; rfl) (Steps.refl _) (argsL := []) (rest := [(.int 2)]) (lenOf pd_18 rfl) rfl (Nat.le_of_eq rfl) (hb hby d9_6) (fun _ _ => ⟨rfl, e1, (by decide : 0 + 0 ≤ _), (by decide : 0 + 0 ≤ _)⟩)
  dsimp only [Pt.U, Pt.locs, Pt.cells, Pt.slots] at X3 l3 y3 z3 st3 hQ3
  subst l3 y3 z3
  obtain ⟨rfl, N3q, e3⟩ := hQ3
  have N3 := Fr.app N0 N3q
  obtain ⟨fs, hr, hrun, hended, hW, hsame⟩ := X3.leave (v := some (.int 2)) (fun h => by rw [hre] at h; cases h)
  refine ⟨_, _, pre0 _ ?_, hrun, hended, _, _, rfl, ?_, ⟨_, rfl⟩, hW, hsame.mono (by decide) (by decide)⟩
  · show SF p e below s₁ (mkF m 0 #[rv u1] []) _
    refine XS.aloadN X0.here hx rfl (hb hby d9_0) rfl rfl ?_
    refine st1 _ ?_
    refine X1.arraylength hx (by rw [e1]; exact Ar2.1) (State.isArrayOf_alike hZ.alike Ar2.2.1) (g := (mkF m 4 #[rv u1] [(.ref u2)])) rfl rfl (hb hby d9_4) _ ?_
    rw [len_of S2 N2z]
    refine XS.aloadN X1.here hx rfl (hb hby d9_5) rfl rfl ?_
    refine st3.trans ?_
    refine XS.ishr X3.here hx rfl (hb hby d9_9) rfl ?_
    show SF p e below T3 (mkF m 10 #[rv u1] [(.int ((2 : Int32) >>> ((0 : Int32) &&& 31)))]) _
    rw [show ((2 : Int32) >>> ((0 : Int32) &&& 31)) = (2 : Int32) from by decide]
    exact retI X3 hx hre (hb hby d9_10) hr
  · show Q9_34 Z u1 u2 u3 u4 u5 GC h0 n0 _ T3.heap _
    rw [e3]
    exact ⟨rfl, N3, rfl⟩
theorem pd_19 : parseMethodDescriptor "()I" = some ⟨[], some .int⟩ := by decide +kernel
theorem d19_13 : D19 13 (.istore_n 2) 1 := by decide +kernel
theorem d19_14 : D19 14 (.aload_n 0) 1 := by decide +kernel
theorem d19_15 : D19 15 (.aload_n 0) 1 := by decide +kernel
theorem d19_16 : D19 16 (.getfield 79) 3 := by decide +kernel
theorem d19_19 : D19 19 (.iload_n 2) 1 := by decide +kernel
theorem d19_20 : D19 20 (.iadd) 1 := by decide +kernel
theorem d19_21 : D19 21 (.invokevirtual 100) 3 := by decide +kernel
theorem d19_24 : D19 24 (.aload_n 0) 1 := by decide +kernel
theorem d19_25 : D19 25 (.aload_n 0) 1 := by decide +kernel
theorem d19_26 : D19 26 (.getfield 79) 3 := by decide +kernel
theorem d19_29 : D19 29 (.aload_n 1) 1 := by decide +kernel
theorem d19_30 : D19 30 (.invokevirtual 208) 3 := by decide +kernel
abbrev D26 (n : Nat) (i : Instr) (k : Nat) : Prop := decode jdk_68_method_73_code n = .ok (i, k)
theorem d26_0 : D26 0 (.aload_n 0) 1 := by decide +kernel
theorem d26_1 : D26 1 (.aload_n 2) 1 := by decide +kernel
theorem d26_2 : D26 2 (.invokevirtual 397) 3 := by decide +kernel
abbrev D27 (n : Nat) (i : Instr) (k : Nat) : Prop := decode jdk_68_method_71_code n = .ok (i, k)
theorem d27_0 : D27 0 (.getstatic 18) 3 := by decide +kernel
theorem d27_3 : D27 3 (.ifCond .eq 18) 3 := by decide +kernel
theorem d27_6 : D27 6 (.aload_n 0) 1 := by decide +kernel
theorem d27_7 : D27 7 (.getfield 22) 3 := by decide +kernel
theorem d27_10 : D27 10 (.aload_n 1) 1 := by decide +kernel
theorem d27_11 : D27 11 (.invokevirtual 40) 3 := by decide +kernel
theorem d27_14 : D27 14 (.if_icmp .eq 7) 3 := by decide +kernel
theorem d27_21 : D27 21 (.return_) 1 := by decide +kernel
theorem ef_26 (m : MethodId) (x0 : Addr) (x1 : Addr) : entryFrame m #[(.ref x0), (.ref x1)] 2 = mkF m 0 #[.val (.ref x0), .val (.ref x1)] [] := by first | (simp [entryFrame, mkF, argsToLocals, Value.category]; done) | rfl
def Q27_35 (Z : State) (u1 : Addr) (u2 : Addr) (GC : Int32) (h0 : Heap) (n0 : Nat) (v : Option Value) (h : Heap) (L : List Loc) : Prop := v = none ∧ Fr n0 L ∧ h = h0
theorem rm27_35 (l : Launch) (Z : State) (a0 : Array Value) (hw : HW Z a0) (ws : List Jvm.Cond) (u1 : Addr) (u2 : Addr) (GC : Int32) (h0 : Heap) (n0 : Nat) (Z0 : n0 ≤ h0.size) (Sg0 : Sta Z Z.heap sq3 "COMPACT_STRINGS" "Z" (.int GC)) (P2 : Old Z n0 h0) (nzGC : ¬ (GC = (0 : Int32))) (P4 : Fld Z h0 u1 sq2 "coder" "B" (.int 0)) (P5 : Exa Z h0 u2 sq3) (P6 : Fld Z h0 u2 sq3 "coder" "B" (.int 0)) :
    MF l Z mq9 (Jvm.Cond.code mq9 jdk_68_method_71_code 2 none) ws rq3 #[(.ref u1), (.ref u2)] h0 (Q27_35 Z u1 u2 GC h0 n0) := by
  refine own_enter (plainFor_of_name pn_4) fun p e s m below meth c s₁ X0 hx hby hml hown hnm hZ e0 hre hlk => ?_
  have N0 := Fr.nil n0
  have pre0 : ∀ t, SF p e below s₁ (mkF m 0 #[rv u1, rv u2] []) t → SF p e below s₁ (entryFrame m #[(.ref u1), (.ref u2)] 2) t := fun t k => castTop (ef_26 m u1 u2) k
  obtain ⟨T1, X1, e1, st1⟩ := getS2 X0 hx hZ hown (host := "") (Or.inl (tw hw 61 rfl)) Via.refl e0 (Sg0.ext P2.2) (g := (mkF m 0 #[rv u1, rv u2] [])) rfl (hb hby d27_0)
  obtain ⟨T2, X2, e2, st2⟩ := getF X1 hx hZ hown (host := "") (Or.inl (tw hw 64 rfl)) Via.refl e1 P4 (g := (mkF m 7 #[rv u1, rv u2] [(.ref u1)])) rfl rfl (hb hby d27_7)
  obtain ⟨cq3, kq3, q3a, q3b, q3c⟩ := isOf hZ e2 P5
  obtain ⟨_, _, ⟨T3, L3, k3x, n3⟩, -, X3, ⟨Lc3, hQ3, l3, y3, z3⟩, st3⟩ := X2.virtualBack hx (y := mq23) (z := mq23) hown (mvT hZ (tw hw 145 rfl)) (mvT hZ (tw hw 47 rfl)) (notFace_of_selects (args := #[]) (mvT hZ (tw hw 49 rfl))) (mvT hZ (tw hw 49 rfl)) (mvT hZ (tw hw 48 rfl)) (by decide) (backOf (W := 1) (rm10_33 l Z a0 hw [] u2 GC h0 n0 Z0 Sg0 P2 nzGC P6) hZ (tw hw 50 rfl) (tw hw 6 rfl) (by decide) (by decide)) q3a q3c (g := (mkF m 11 #[rv u1, rv u2] [(.ref u2), (.int 0)])) rfl (by rw [hml]; rfl) (Steps.refl _) (argsL := []) (rest := [(.int 0)]) (lenOf pd_18 rfl) rfl (Nat.le_of_eq rfl) (hb hby d27_11) (fun _ _ => ⟨rfl, e2, (by decide : 0 + 0 ≤ _), (by decide : 0 + 0 ≤ _)⟩)
  dsimp only [Pt.U, Pt.locs, Pt.cells, Pt.slots] at X3 l3 y3 z3 st3 hQ3
  subst l3 y3 z3
  obtain ⟨rfl, N3q, e3⟩ := hQ3
  have N3 := Fr.app N0 N3q
  obtain ⟨fs, hr, hrun, hended, hW, hsame⟩ := X3.leave (v := none) (fun _ => rfl)
  refine ⟨_, _, pre0 _ ?_, hrun, hended, _, _, rfl, ?_, ⟨_, rfl⟩, hW, hsame.mono (by decide) (by decide)⟩
  · show SF p e below s₁ (mkF m 0 #[rv u1, rv u2] []) _
    refine st1 _ ?_
    refine XS.ifNo X1.here hx rfl (hb hby d27_3) rfl ((if0 _ _).trans (feq nzGC).1) ?_
    refine XS.aloadN X1.here hx rfl (hb hby d27_6) rfl rfl ?_
    refine st2 _ ?_
    refine XS.aloadN X2.here hx rfl (hb hby d27_10) rfl rfl ?_
    refine st3.trans ?_
    refine XS.icmpYes X3.here hx rfl (pc0 := 14) (pc' := 21) rfl (hb hby d27_14) rfl (teq (by decide : (0 : Int32) = (0 : Int32))).1 (by decide) (by decide) ?_
    exact X3.returnOut hx hre (hb hby d27_21) hr
  · show Q27_35 Z u1 u2 GC h0 n0 _ T3.heap _
    rw [e3]
    exact ⟨rfl, N3, rfl⟩
theorem pd_20 : parseMethodDescriptor "(Ljava/lang/String;)V" = some ⟨[(.object sq3)], none⟩ := by decide +kernel
theorem d26_5 : D26 5 (.aload_n 2) 1 := by decide +kernel
theorem d26_6 : D26 6 (.aload_n 0) 1 := by decide +kernel
theorem d26_7 : D26 7 (.getfield 15) 3 := by decide +kernel
theorem d26_10 : D26 10 (.iload_n 1) 1 := by decide +kernel
theorem d26_11 : D26 11 (.aload_n 0) 1 := by decide +kernel
theorem d26_12 : D26 12 (.getfield 22) 3 := by decide +kernel
theorem d26_15 : D26 15 (.invokevirtual 399) 3 := by decide +kernel
abbrev D28 (n : Nat) (i : Instr) (k : Nat) : Prop := decode jdk_42_method_147_code n = .ok (i, k)
theorem d28_0 : D28 0 (.aload_n 0) 1 := by decide +kernel
theorem d28_1 : D28 1 (.invokevirtual 335) 3 := by decide +kernel
theorem d28_4 : D28 4 (.iload_n 3) 1 := by decide +kernel
theorem d28_5 : D28 5 (.if_icmp .ne 23) 3 := by decide +kernel
theorem d28_8 : D28 8 (.aload_n 0) 1 := by decide +kernel
theorem d28_9 : D28 9 (.getfield 9) 3 := by decide +kernel
theorem d28_12 : D28 12 (.iconst 0) 1 := by decide +kernel
theorem d28_13 : D28 13 (.aload_n 1) 1 := by decide +kernel
theorem d28_14 : D28 14 (.iload_n 2) 1 := by decide +kernel
theorem d28_15 : D28 15 (.iload_n 3) 1 := by decide +kernel
theorem d28_16 : D28 16 (.ishl) 1 := by decide +kernel
theorem d28_17 : D28 17 (.aload_n 0) 1 := by decide +kernel
theorem d28_18 : D28 18 (.getfield 9) 3 := by decide +kernel
theorem d28_21 : D28 21 (.arraylength) 1 := by decide +kernel
theorem d28_22 : D28 22 (.invokestatic 212) 3 := by decide +kernel
theorem d28_25 : D28 25 (.goto 18) 3 := by decide +kernel
theorem d28_43 : D28 43 (.return_) 1 := by decide +kernel
theorem ef_27 (m : MethodId) (x0 : Addr) (x1 : Addr) (x2 : Int32) (x3 : Int32) : entryFrame m #[(.ref x0), (.ref x1), (.int x2), (.int x3)] 4 = mkF m 0 #[.val (.ref x0), .val (.ref x1), .val (.int x2), .val (.int x3)] [] := by first | (simp [entryFrame, mkF, argsToLocals, Value.category]; done) | rfl
def Q28_36 (Z : State) (u1 : Addr) (u2 : Addr) (u3 : List Int32) (GC : Int32) (u4 : Addr) (u5 : ClassId) (u6 : Int32) (u7 : Int32) (u8 : ClassId) (u9 : Nat) (h0 : Heap) (n0 : Nat) (v : Option Value) (h : Heap) (L : List Loc) : Prop := v = none ∧ Fr n0 L ∧ Keep h0 h [u2] ∧ Exa Z h u2 "[B" ∧ Arv Z h u2 u8 .byte (Int32.ofNat u9) ((own_lo u3) ++ (own_lo [u6, u7])) (.int (0 : Int32))
theorem rm28_36 (l : Launch) (Z : State) (a0 : Array Value) (hw : HW Z a0) (ws : List Jvm.Cond) (u1 : Addr) (u2 : Addr) (u3 : List Int32) (GC : Int32) (u4 : Addr) (u5 : ClassId) (u6 : Int32) (u7 : Int32) (u8 : ClassId) (u9 : Nat) (h0 : Heap) (n0 : Nat) (Z0 : n0 ≤ h0.size) (P1 : Exa Z h0 u1 sq3) (Sg0 : Sta Z Z.heap sq3 "COMPACT_STRINGS" "Z" (.int GC)) (P3 : Old Z n0 h0) (nzGC : ¬ (GC = (0 : Int32))) (P5 : Fld Z h0 u1 sq3 "coder" "B" (.int 0)) (P6 : Fld Z h0 u1 sq3 "value" "[B" (.ref u4)) (P7 : Arv Z h0 u4 u5 .byte (2 : Int32) (own_lo [u6, u7]) (.int (0 : Int32))) (P8 : Exa Z h0 u2 "[B") (P9 : Arv Z h0 u2 u8 .byte (Int32.ofNat u9) (own_lo u3) (.int (0 : Int32))) (P10 : ((Int32.ofNat u3.length)).toNatClampNeg = (own_lo u3).length ∧ ¬ (Int32.ofNat u3.length) < 0) (P11 : ¬ (2 : Int32) < 0 ∧ (own_lo [u6, u7]).length ≤ ((2 : Int32)).toNatClampNeg ∧ ((2 : Int32)).toNatClampNeg ≤ ((2 : Int32)).toNatClampNeg ∧ (own_lo u3).length + ((2 : Int32)).toNatClampNeg ≤ ((Int32.ofNat u9)).toNatClampNeg) (P12 : n0 ≤ u2) :
    MF l Z mq24 (Jvm.Cond.code mq24 jdk_42_method_147_code 4 none) ws ({ frames := 1, cells := 0, slots := 0, locals := 40 } : Room) #[(.ref u1), (.ref u2), (.int (Int32.ofNat u3.length)), (.int 0)] h0 (Q28_36 Z u1 u2 u3 GC u4 u5 u6 u7 u8 u9 h0 n0) := by
  refine own_enter (plainFor_of_name pn_2) fun p e s m below meth c s₁ X0 hx hby hml hown hnm hZ e0 hre hlk => ?_
  have N0 := Fr.nil n0
  have pre0 : ∀ t, SF p e below s₁ (mkF m 0 #[rv u1, rv u2, iv (Int32.ofNat u3.length), iv 0] []) t → SF p e below s₁ (entryFrame m #[(.ref u1), (.ref u2), (.int (Int32.ofNat u3.length)), (.int 0)] 4) t := fun t k => castTop (ef_27 m u1 u2 (Int32.ofNat u3.length) (0 : Int32)) k
  obtain ⟨cq1, kq1, q1a, q1b, q1c⟩ := isOf hZ e0 P1
  obtain ⟨_, _, ⟨T1, L1, k1x, n1⟩, -, X1, ⟨Lc1, hQ1, l1, y1, z1⟩, st1⟩ := X0.virtualBack hx (y := mq23) (z := mq23) hown (mvT hZ (tw hw 46 rfl)) (mvT hZ (tw hw 47 rfl)) (notFace_of_selects (args := #[]) (mvT hZ (tw hw 49 rfl))) (mvT hZ (tw hw 49 rfl)) (mvT hZ (tw hw 48 rfl)) (by decide) (backOf (W := 0) (rm10_33 l Z a0 hw [] u1 GC h0 n0 Z0 Sg0 P3 nzGC P5) hZ (tw hw 50 rfl) (tw hw 6 rfl) (by decide) (by decide)) q1a q1c (g := (mkF m 1 #[rv u1, rv u2, iv (Int32.ofNat u3.length), iv 0] [(.ref u1)])) rfl (by rw [hml]; rfl) (Steps.refl _) (argsL := []) (rest := []) (lenOf pd_18 rfl) rfl (Nat.le_of_eq rfl) (hb hby d28_1) (fun _ _ => ⟨rfl, e0, (by decide : 0 + 0 ≤ _), (by decide : 0 + 0 ≤ _)⟩)
  dsimp only [Pt.U, Pt.locs, Pt.cells, Pt.slots] at X1 l1 y1 z1 st1 hQ1
  subst l1 y1 z1
  obtain ⟨rfl, N1q, e1⟩ := hQ1
  have N1 := Fr.app N0 N1q
  obtain ⟨T2, X2, e2, st2⟩ := getF X1 hx hZ hown (host := "") (Or.inl (tw hw 32 rfl)) Via.refl e1 P6 (g := (mkF m 9 #[rv u1, rv u2, iv (Int32.ofNat u3.length), iv 0] [(.ref u1)])) rfl rfl (hb hby d28_9)
  obtain ⟨T3, X3, e3, st3⟩ := getF X2 hx hZ hown (host := "") (Or.inl (tw hw 32 rfl)) Via.refl e2 P6 (g := (mkF m 18 #[rv u1, rv u2, iv (Int32.ofNat u3.length), iv 0] [(.ref u1), (.int (Int32.ofNat u3.length)), (.ref u2), (.int 0), (.ref u4)])) rfl rfl (hb hby d28_18)
  obtain ⟨cl4, Ar4, q4, S4, N4z, H4, G4⟩ := id P7
  obtain ⟨T5, h5, Lc5, X5, e5, K5c, N5, V5, st5⟩ := own_acopy X3 hx hZ hown (tw hw 151 rfl) (tw hw 134 rfl) (tw hw 132 rfl) (tw hw 133 rfl) e3 P7 P9 (by decide) P10 P11 (g := (mkF m 22 #[rv u1, rv u2, iv (Int32.ofNat u3.length), iv 0] [(.int 2), (.int (Int32.ofNat u3.length)), (.ref u2), (.int 0), (.ref u4)])) rfl (by rw [hml]; rfl) rfl (hb hby d28_22) (W := 0) (Nat.le_of_eq rfl) (by decide) (by decide) P12 N1
  have K5 : Keep h0 h5 [u2] := (Keep.refl h0 [u2]).trans K5c (allS (Or.inl (List.mem_of_getElem? (i := 0) rfl)) all0)
  have F1_6 : Exa Z h5 u2 "[B" := P8.keep K5c
  obtain ⟨fs, hr, hrun, hended, hW, hsame⟩ := X5.leave (v := none) (fun _ => rfl)
  refine ⟨_, _, pre0 _ ?_, hrun, hended, _, _, rfl, ?_, ⟨_, rfl⟩, hW, hsame.mono (by decide) (by decide)⟩
  · show SF p e below s₁ (mkF m 0 #[rv u1, rv u2, iv (Int32.ofNat u3.length), iv 0] []) _
    refine XS.aloadN X0.here hx rfl (hb hby d28_0) rfl rfl ?_
    refine st1.trans ?_
    refine XS.iloadN X1.here hx rfl (hb hby d28_4) rfl ?_
    refine XS.icmpNo X1.here hx rfl (hb hby d28_5) rfl (teq (by decide : (0 : Int32) = (0 : Int32))).2 ?_
    refine XS.aloadN X1.here hx rfl (hb hby d28_8) rfl rfl ?_
    refine st2 _ ?_
    refine XS.iconst X2.here hx rfl (hb hby d28_12) ?_
    refine XS.aloadN X2.here hx rfl (hb hby d28_13) rfl rfl ?_
    refine XS.iloadN X2.here hx rfl (hb hby d28_14) rfl ?_
    refine XS.iloadN X2.here hx rfl (hb hby d28_15) rfl ?_
    refine XS.ishl X2.here hx rfl (hb hby d28_16) rfl ?_
    show SF p e below T2 (mkF m 17 #[rv u1, rv u2, iv (Int32.ofNat u3.length), iv 0] [(.int ((Int32.ofNat u3.length) <<< ((0 : Int32) &&& 31))), (.ref u2), (.int 0), (.ref u4)]) _
    rw [(show ((Int32.ofNat u3.length) <<< ((0 : Int32) &&& 31)) = (Int32.ofNat u3.length) from own_shl0 _)]
    refine XS.aloadN X2.here hx rfl (hb hby d28_17) rfl rfl ?_
    refine st3 _ ?_
    refine X3.arraylength hx (by rw [e3]; exact Ar4.1) (State.isArrayOf_alike hZ.alike Ar4.2.1) (g := (mkF m 21 #[rv u1, rv u2, iv (Int32.ofNat u3.length), iv 0] [(.ref u4), (.int (Int32.ofNat u3.length)), (.ref u2), (.int 0), (.ref u4)])) rfl rfl (hb hby d28_21) _ ?_
    rw [len_of S4 N4z]
    refine st5 _ ?_
    refine XS.goto X5.here hx rfl (pc0 := 25) (pc' := 43) rfl (hb hby d28_25) (by decide) (by decide) ?_
    exact X5.returnOut hx hre (hb hby d28_43) hr
  · show Q28_36 Z u1 u2 u3 GC u4 u5 u6 u7 u8 u9 h0 n0 _ T5.heap _
    rw [e5]
    exact ⟨rfl, N5, K5, F1_6, V5⟩
theorem pd_21 : parseMethodDescriptor "([BIB)V" = some ⟨[(.array .byte), .int, .byte], none⟩ := by decide +kernel
theorem d26_18 : D26 18 (.return_) 1 := by decide +kernel
theorem ef_28 (m : MethodId) (x0 : Addr) (x1 : Int32) (x2 : Addr) : entryFrame m #[(.ref x0), (.int x1), (.ref x2)] 3 = mkF m 0 #[.val (.ref x0), .val (.int x1), .val (.ref x2)] [] := by first | (simp [entryFrame, mkF, argsToLocals, Value.category]; done) | rfl
def Q26_37 (Z : State) (u1 : Addr) (u2 : List Int32) (u3 : Addr) (GC : Int32) (u4 : Addr) (u5 : Addr) (u6 : ClassId) (u7 : Int32) (u8 : Int32) (u9 : ClassId) (u10 : Nat) (h0 : Heap) (n0 : Nat) (v : Option Value) (h : Heap) (L : List Loc) : Prop := v = none ∧ Fr n0 L ∧ Keep h0 h [u4] ∧ Exa Z h u4 "[B" ∧ Arv Z h u4 u9 .byte (Int32.ofNat u10) ((own_lo u2) ++ (own_lo [u7, u8])) (.int (0 : Int32))
theorem rm26_37 (l : Launch) (Z : State) (a0 : Array Value) (hw : HW Z a0) (ws : List Jvm.Cond) (u1 : Addr) (u2 : List Int32) (u3 : Addr) (GC : Int32) (u4 : Addr) (u5 : Addr) (u6 : ClassId) (u7 : Int32) (u8 : Int32) (u9 : ClassId) (u10 : Nat) (h0 : Heap) (n0 : Nat) (Z0 : n0 ≤ h0.size) (P1 : Exa Z h0 u1 sq4) (Sg0 : Sta Z Z.heap sq3 "COMPACT_STRINGS" "Z" (.int GC)) (P3 : Old Z n0 h0) (nzGC : ¬ (GC = (0 : Int32))) (P5 : Fld Z h0 u1 sq2 "coder" "B" (.int 0)) (P6 : Exa Z h0 u3 sq3) (P7 : Fld Z h0 u3 sq3 "coder" "B" (.int 0)) (P8 : Fld Z h0 u1 sq2 "value" "[B" (.ref u4)) (P9 : Fld Z h0 u3 sq3 "value" "[B" (.ref u5)) (P10 : Arv Z h0 u5 u6 .byte (2 : Int32) (own_lo [u7, u8]) (.int (0 : Int32))) (P11 : Exa Z h0 u4 "[B") (P12 : Arv Z h0 u4 u9 .byte (Int32.ofNat u10) (own_lo u2) (.int (0 : Int32))) (P13 : ((Int32.ofNat u2.length)).toNatClampNeg = (own_lo u2).length ∧ ¬ (Int32.ofNat u2.length) < 0) (P14 : ¬ (2 : Int32) < 0 ∧ (own_lo [u7, u8]).length ≤ ((2 : Int32)).toNatClampNeg ∧ ((2 : Int32)).toNatClampNeg ≤ ((2 : Int32)).toNatClampNeg ∧ (own_lo u2).length + ((2 : Int32)).toNatClampNeg ≤ ((Int32.ofNat u10)).toNatClampNeg) (P15 : n0 ≤ u4) :
    MF l Z mq13 (Jvm.Cond.code mq13 jdk_68_method_73_code 3 none) ws ({ frames := 2, cells := 0, slots := 0, locals := 55 } : Room) #[(.ref u1), (.int (Int32.ofNat u2.length)), (.ref u3)] h0 (Q26_37 Z u1 u2 u3 GC u4 u5 u6 u7 u8 u9 u10 h0 n0) := by
  refine own_enter (plainFor_of_name pn_4) fun p e s m below meth c s₁ X0 hx hby hml hown hnm hZ e0 hre hlk => ?_
  have N0 := Fr.nil n0
  have pre0 : ∀ t, SF p e below s₁ (mkF m 0 #[rv u1, iv (Int32.ofNat u2.length), rv u3] []) t → SF p e below s₁ (entryFrame m #[(.ref u1), (.int (Int32.ofNat u2.length)), (.ref u3)] 3) t := fun t k => castTop (ef_28 m u1 (Int32.ofNat u2.length) u3) k
  obtain ⟨cq1, q1, q1'⟩ := P1.cell
  obtain ⟨_, _, ⟨T1, L1, k1x, n1⟩, -, X1, ⟨Lc1, hQ1, l1, y1, z1⟩, st1⟩ := X0.privateBack hx (y := mq9) hown (mvT hZ (tw hw 140 rfl)) (mvT hZ (tw hw 141 rfl)) (own_selR hZ (tw hw 143 rfl) (tw hw 142 rfl) (tw hw 141 rfl) (by decide)) (Cond.privateMethod_at (mvP hZ (tw hw 142 rfl) (args := #[]))) (mvT hZ (tw hw 144 rfl)) (by decide) (backOf (W := 0) (rm27_35 l Z a0 hw [] u1 u3 GC h0 n0 Z0 Sg0 P3 nzGC P5 P6 P7) hZ (tw hw 144 rfl) (tw hw 58 rfl) (by decide) (by decide)) (g := (mkF m 2 #[rv u1, iv (Int32.ofNat u2.length), rv u3] [(.ref u3), (.ref u1)])) rfl (by rw [hml]; rfl) (Steps.refl _) (a := u1) (by rw [e0]; exact q1) q1' (argsL := [(.ref u3)]) (rest := []) (lenOf pd_20 rfl) rfl (Nat.le_of_eq rfl) (hb hby d26_2) (fun _ _ => ⟨rfl, e0, (by decide : 0 + 0 ≤ _), (by decide : 0 + 0 ≤ _)⟩)
  dsimp only [Pt.U, Pt.locs, Pt.cells, Pt.slots] at X1 l1 y1 z1 st1 hQ1
  subst l1 y1 z1
  obtain ⟨rfl, N1q, e1⟩ := hQ1
  have N1 := Fr.app N0 N1q
  obtain ⟨T2, X2, e2, st2⟩ := getF X1 hx hZ hown (host := "") (Or.inl (tw hw 62 rfl)) Via.refl e1 P8 (g := (mkF m 7 #[rv u1, iv (Int32.ofNat u2.length), rv u3] [(.ref u1), (.ref u3)])) rfl rfl (hb hby d26_7)
  obtain ⟨T3, X3, e3, st3⟩ := getF X2 hx hZ hown (host := "") (Or.inl (tw hw 64 rfl)) Via.refl e2 P5 (g := (mkF m 12 #[rv u1, iv (Int32.ofNat u2.length), rv u3] [(.ref u1), (.int (Int32.ofNat u2.length)), (.ref u4), (.ref u3)])) rfl rfl (hb hby d26_12)
  obtain ⟨cq4, kq4, q4a, q4b, q4c⟩ := isOf hZ e3 P6
  obtain ⟨_, _, ⟨T4, L4, k4x, n4⟩, -, X4, ⟨Lc4, hQ4, l4, y4, z4⟩, st4⟩ := X3.virtualBack hx (y := mq24) (z := mq24) hown (mvT hZ (tw hw 146 rfl)) (mvT hZ (tw hw 147 rfl)) (notFace_of_selects (args := #[]) (mvT hZ (tw hw 149 rfl))) (mvT hZ (tw hw 149 rfl)) (mvT hZ (tw hw 148 rfl)) (by decide) (backOf (W := 0) (rm28_36 l Z a0 hw [] u3 u4 u2 GC u5 u6 u7 u8 u9 u10 h0 n0 Z0 P6 Sg0 P3 nzGC P7 P9 P10 P11 P12 P13 P14 P15) hZ (tw hw 150 rfl) (tw hw 6 rfl) (by decide) (by decide)) q4a q4c (g := (mkF m 15 #[rv u1, iv (Int32.ofNat u2.length), rv u3] [(.int 0), (.int (Int32.ofNat u2.length)), (.ref u4), (.ref u3)])) rfl (by rw [hml]; rfl) (Steps.refl _) (argsL := [(.ref u4), (.int (Int32.ofNat u2.length)), (.int 0)]) (rest := []) (lenOf pd_21 rfl) rfl (Nat.le_of_eq rfl) (hb hby d26_15) (fun _ _ => ⟨rfl, e3, (by decide : 0 + 0 ≤ _), (by decide : 0 + 0 ≤ _)⟩)
  dsimp only [Pt.U, Pt.locs, Pt.cells, Pt.slots] at X4 l4 y4 z4 st4 hQ4
  subst l4 y4 z4
  obtain ⟨rfl, N4q, K4c, Fq4_0, Fq4_1⟩ := hQ4
  have K4 : Keep h0 T4.heap [u4] := (Keep.refl h0 [u4]).trans K4c (allS (Or.inl (List.mem_of_getElem? (i := 0) rfl)) all0)
  have N4 := Fr.app N1 N4q
  obtain ⟨fs, hr, hrun, hended, hW, hsame⟩ := X4.leave (v := none) (fun _ => rfl)
  refine ⟨_, _, pre0 _ ?_, hrun, hended, _, _, rfl, ?_, ⟨_, rfl⟩, hW, hsame.mono (by decide) (by decide)⟩
  · show SF p e below s₁ (mkF m 0 #[rv u1, iv (Int32.ofNat u2.length), rv u3] []) _
    refine XS.aloadN X0.here hx rfl (hb hby d26_0) rfl rfl ?_
    refine XS.aloadN X0.here hx rfl (hb hby d26_1) rfl rfl ?_
    refine st1.trans ?_
    refine XS.aloadN X1.here hx rfl (hb hby d26_5) rfl rfl ?_
    refine XS.aloadN X1.here hx rfl (hb hby d26_6) rfl rfl ?_
    refine st2 _ ?_
    refine XS.iloadN X2.here hx rfl (hb hby d26_10) rfl ?_
    refine XS.aloadN X2.here hx rfl (hb hby d26_11) rfl rfl ?_
    refine st3 _ ?_
    refine st4.trans ?_
    exact X4.returnOut hx hre (hb hby d26_18) hr
  · show Q26_37 Z u1 u2 u3 GC u4 u5 u6 u7 u8 u9 u10 h0 n0 _ T4.heap _
    exact ⟨rfl, N4, K4, Fq4_0, Fq4_1⟩
theorem pd_22 : parseMethodDescriptor "(ILjava/lang/String;)V" = some ⟨[.int, (.object sq3)], none⟩ := by decide +kernel
theorem d19_33 : D19 33 (.aload_n 0) 1 := by decide +kernel
theorem d19_34 : D19 34 (.dup) 1 := by decide +kernel
theorem d19_35 : D19 35 (.getfield 79) 3 := by decide +kernel
theorem d19_38 : D19 38 (.iload_n 2) 1 := by decide +kernel
theorem d19_39 : D19 39 (.iadd) 1 := by decide +kernel
theorem d19_40 : D19 40 (.putfield 79) 3 := by decide +kernel
theorem d19_43 : D19 43 (.aload_n 0) 1 := by decide +kernel
theorem d19_44 : D19 44 (.areturn) 1 := by decide +kernel
theorem ef_29 (m : MethodId) (x0 : Addr) (x1 : Addr) : entryFrame m #[(.ref x0), (.ref x1)] 3 = mkF m 0 #[.val (.ref x0), .val (.ref x1), .unset] [] := by first | (simp [entryFrame, mkF, argsToLocals, Value.category]; done) | rfl
theorem aasL (l : Launch) (Z : State) (a0 : Array Value) (hw : HW Z a0) (ws : List Jvm.Cond) (sba : Addr) (sta : Addr) (stb : Addr) (ksb : ClassId) (e0a : Int32) (e1a : Int32) (GC : Int32) (csa : List Int32) (ta : Addr) (kta : ClassId) (nna : Nat) (GF : Value) (h0 : Heap) (n0 : Nat) (Z0 : n0 ≤ h0.size) (P1 : Exa Z h0 sta sq3) (P2 : Fld Z h0 sta sq3 "value" "[B" (.ref stb)) (P3 : Arv Z h0 stb ksb .byte (2 : Int32) (own_lo [e0a, e1a]) (.int (0 : Int32))) (Sg0 : Sta Z Z.heap sq3 "COMPACT_STRINGS" "Z" (.int GC)) (P5 : Old Z n0 h0) (nzGC : ¬ (GC = (0 : Int32))) (P7 : Fld Z h0 sta sq3 "coder" "B" (.int 0)) (P8 : Fld Z h0 sba sq2 "count" "I" (.int (Int32.ofNat csa.length))) (P9 : Exa Z h0 sba sq4) (P10 : Fld Z h0 sba sq2 "value" "[B" (.ref ta)) (P11 : Fld Z h0 sba sq2 "coder" "B" (.int 0)) (P12 : Fld Z h0 sba sq2 "maybeLatin1" "Z" (.int 0)) (P13 : Arv Z h0 ta kta .byte (Int32.ofNat nna) (own_lo csa) (.int (0 : Int32))) (P14 : St Z GC GF) (P15 : Exa Z h0 ta "[B") (P16 : ta ≠ sba) (P17 : n0 ≤ sba) (P18 : n0 ≤ ta) (P19 : csa.length ≤ nna) (P20 : nna < 13) (P21 : csa.length < 7) (P22 : (csa.length + 2) < 7) (P23 : (csa.length + 2) ≤ nna + 2) (P24 : 0 < nna) (P25 : sta ≠ sba) (P26 : stb ≠ sba) (P27 : ((Int32.ofNat csa.length)).toNatClampNeg = (own_lo csa).length ∧ ¬ (Int32.ofNat csa.length) < 0) (hall : ∀ c ∈ csa, ¬ (255 : Int32) < c) (he : ∀ c ∈ [e0a, e1a], ¬ c < 0 ∧ ¬ (255 : Int32) < c) :
    MF l Z mq5 (Jvm.Cond.code mq5 jdk_68_method_22_code 3 (some (.object sq2))) ws rq21 #[(.ref sba), (.ref sta)] h0 (QA Z sba ta (csa ++ [e0a, e1a]) h0 n0) := by
  refine own_enter (plainFor_of_name pn_4) fun p e s m below meth c s₁ X0 hx hby hml hown hnm hZ e0 hre hlk => ?_
  have N0 := Fr.nil n0
  have pre0 : ∀ t, SF p e below s₁ (mkF m 0 #[rv sba, rv sta, .unset] []) t → SF p e below s₁ (entryFrame m #[(.ref sba), (.ref sta)] 3) t := fun t k => castTop (ef_29 m sba sta) k
  obtain ⟨cq1, kq1, q1a, q1b, q1c⟩ := isOf hZ e0 P1
  obtain ⟨_, _, ⟨T1, L1, k1x, n1⟩, -, X1, ⟨Lc1, hQ1, l1, y1, z1⟩, st1⟩ := X0.virtualBack hx (y := mq26) (z := mq26) hown (mvT hZ (tw hw 101 rfl)) (mvT hZ (tw hw 42 rfl)) (notFace_of_selects (args := #[]) (mvT hZ (tw hw 44 rfl))) (mvT hZ (tw hw 44 rfl)) (mvT hZ (tw hw 43 rfl)) (by decide) (backOf (W := 0) (rm9_34 l Z a0 hw [] sta stb ksb e0a e1a GC h0 n0 Z0 P2 P3 P1 Sg0 P5 nzGC P7) hZ (tw hw 45 rfl) (tw hw 6 rfl) (by decide) (by decide)) q1a q1c (g := (mkF m 10 #[rv sba, rv sta, .unset] [(.ref sta)])) rfl (by rw [hml]; rfl) (Steps.refl _) (argsL := []) (rest := []) (lenOf pd_19 rfl) rfl (Nat.le_of_eq rfl) (hb hby d19_10) (fun _ _ => ⟨rfl, e0, (by decide : 0 + 0 ≤ _), (by decide : 0 + 0 ≤ _)⟩)
  dsimp only [Pt.U, Pt.locs, Pt.cells, Pt.slots] at X1 l1 y1 z1 st1 hQ1
  subst l1 y1 z1
  obtain ⟨rfl, N1q, e1⟩ := hQ1
  have N1 := Fr.app N0 N1q
  obtain ⟨T2, X2, e2, st2⟩ := getF X1 hx hZ hown (host := "") (Or.inl (tw hw 102 rfl)) Via.refl e1 P8 (g := (mkF m 16 #[rv sba, rv sta, iv 2] [(.ref sba), (.ref sba)])) rfl rfl (hb hby d19_16)
  obtain ⟨cq3, q3, q3'⟩ := P9.cell
  obtain ⟨_, _, ⟨T3, L3, k3x, n3⟩, -, X3, ⟨Lc3, hQ3, l3, y3, z3⟩, st3⟩ := X2.privateBack hx (y := mq6) hown (mvT hZ (tw hw 104 rfl)) (mvT hZ (tw hw 105 rfl)) (own_selR hZ (tw hw 107 rfl) (tw hw 106 rfl) (tw hw 105 rfl) (by decide)) (Cond.privateMethod_at (mvP hZ (tw hw 106 rfl) (args := #[]))) (mvT hZ (tw hw 108 rfl)) (by decide) (backOf (W := 0) (ens0 l Z a0 hw [] GC GF sba ta kta nna (csa.length + 2) csa h0 n0 Z0 P14 P5 P9 P10 P11 P8 P12 P15 P13 P16 P17 P18 P19 P20 P21 P22 P23 P24) hZ (tw hw 108 rfl) (tw hw 58 rfl) (by decide) (by decide)) (g := (mkF m 21 #[rv sba, rv sta, iv 2] [(.int (Int32.ofNat (csa.length + 2))), (.ref sba)])) rfl (by rw [hml]; rfl) (Steps.refl _) (a := sba) (by rw [e2]; exact q3) q3' (argsL := [(.int (Int32.ofNat (csa.length + 2)))]) (rest := []) (lenOf pd_14 rfl) rfl (Nat.le_of_eq rfl) (hb hby d19_21) (fun _ _ => ⟨rfl, e2, (by decide : 0 + 1 ≤ _), (by decide : 0 + 24 ≤ _)⟩)
  dsimp only [Pt.U, Pt.locs, Pt.cells, Pt.slots] at X3 l3 y3 z3 st3 hQ3
  subst l3 y3 z3
  obtain ⟨b21, k22, nq3, hor3, hne3, hgt3, hmi3, hnq3, rfl, N3q, K3c, Fq3_0, Fq3_1, Fq3_2, Fq3_3, Fq3_4, Fq3_5, Fq3_6⟩ := hQ3
  have K3 : Keep h0 T3.heap [sba, ta] := (Keep.refl h0 [sba, ta]).trans K3c (allS (Or.inl (List.mem_of_getElem? (i := 0) rfl)) all0)
  have N3 := Fr.app N1 N3q
  obtain ⟨T4, X4, e4, st4⟩ := getF X3 hx hZ hown (host := "") (Or.inl (tw hw 102 rfl)) Via.refl rfl Fq3_3 (g := (mkF m 26 #[rv sba, rv sta, iv 2] [(.ref sba), (.ref sba)])) rfl rfl (hb hby d19_26)
  have O3 : Old Z n0 T3.heap := P5.keep K3c (allS P17 all0)
  have F1_5 : Exa Z T3.heap sta sq3 := P1.keep K3c
  have F1_6 : Fld Z T3.heap sta sq3 "coder" "B" (.int 0) := P7.keep K3c (ninS P25 nin0)
  have F1_7 : Fld Z T3.heap sta sq3 "value" "[B" (.ref stb) := P2.keep K3c (ninS P25 nin0)
  have F1_8 : Arv Z T3.heap stb ksb .byte (2 : Int32) (own_lo [e0a, e1a]) (.int (0 : Int32)) := P3.keep K3c (ninS P26 nin0)
  have Z3 : n0 ≤ T3.heap.size := Nat.le_trans Z0 K3c.1
  obtain ⟨cq9, q9, q9'⟩ := Fq3_0.cell
  obtain ⟨_, _, ⟨T9, L9, k9x, n9⟩, -, X9, ⟨Lc9, hQ9, l9, y9, z9⟩, st9⟩ := X4.privateBack hx (y := mq13) hown (mvT hZ (tw hw 135 rfl)) (mvT hZ (tw hw 136 rfl)) (own_selR hZ (tw hw 138 rfl) (tw hw 137 rfl) (tw hw 136 rfl) (by decide)) (Cond.privateMethod_at (mvP hZ (tw hw 137 rfl) (args := #[]))) (mvT hZ (tw hw 139 rfl)) (by decide) (backOf (W := 0) (rm26_37 l Z a0 hw [] sba csa sta GC b21 stb ksb e0a e1a k22 nq3 T3.heap n0 Z3 Fq3_0 Sg0 O3 nzGC Fq3_2 F1_5 F1_6 Fq3_1 F1_7 F1_8 Fq3_5 Fq3_6 P27 (by simp only [List.nil_append, List.length_append, own_lo_len]; exact (own_all2 7 13 (C := fun q nq => (q + 2 ≤ nq)) (P := fun q nq => ¬ (2 : Int32) < 0 ∧ 2 ≤ ((2 : Int32)).toNatClampNeg ∧ ((2 : Int32)).toNatClampNeg ≤ ((2 : Int32)).toNatClampNeg ∧ q + ((2 : Int32)).toNatClampNeg ≤ ((Int32.ofNat nq)).toNatClampNeg) (by decide +kernel) csa.length P21 nq3 hnq3 hmi3)) hgt3) hZ (tw hw 139 rfl) (tw hw 58 rfl) (by decide) (by decide)) (g := (mkF m 30 #[rv sba, rv sta, iv 2] [(.ref sta), (.int (Int32.ofNat csa.length)), (.ref sba)])) rfl (by rw [hml]; rfl) (Steps.refl _) (a := sba) (by rw [e4]; exact q9) q9' (argsL := [(.int (Int32.ofNat csa.length)), (.ref sta)]) (rest := []) (lenOf pd_22 rfl) rfl (Nat.le_of_eq rfl) (hb hby d19_30) (fun _ _ => ⟨rfl, e4, (by decide : 1 + 0 ≤ _), (by decide : 24 + 0 ≤ _)⟩)
  dsimp only [Pt.U, Pt.locs, Pt.cells, Pt.slots] at X9 l9 y9 z9 st9 hQ9
  subst l9 y9 z9
  obtain ⟨rfl, N9q, K9c, Fq9_0, Fq9_1⟩ := hQ9
  have K9 : Keep h0 T9.heap [sba, ta] := K3.trans K9c (allS (own_or hor3 (List.mem_of_getElem? (i := 1) rfl) (Keep.refl h0 [sba, ta]).1) all0)
  have N9 := Fr.app N3 N9q
  have F2_10 : Fld Z T9.heap sba sq2 "count" "I" (.int (Int32.ofNat csa.length)) := Fq3_3.keep K9c (ninS (Ne.symm hne3) nin0)
  obtain ⟨T11, X11, e11, st11⟩ := getF X9 hx hZ hown (host := "") (Or.inl (tw hw 102 rfl)) Via.refl rfl F2_10 (g := (mkF m 35 #[rv sba, rv sta, iv 2] [(.ref sba), (.ref sba)])) rfl rfl (hb hby d19_35)
  have F2_12 : Exa Z T9.heap sba sq4 := Fq3_0.keep K9c
  have F2_13 : Fld Z T9.heap sba sq2 "value" "[B" (.ref b21) := Fq3_1.keep K9c (ninS (Ne.symm hne3) nin0)
  have F2_14 : Fld Z T9.heap sba sq2 "coder" "B" (.int 0) := Fq3_2.keep K9c (ninS (Ne.symm hne3) nin0)
  have F2_15 : Fld Z T9.heap sba sq2 "maybeLatin1" "Z" (.int 0) := Fq3_4.keep K9c (ninS (Ne.symm hne3) nin0)
  obtain ⟨T16, h16, X16, e16, W16, st16⟩ := putF X11 hx hZ hown (host := "") (Or.inl (tw hw 102 rfl)) Via.refl e11 F2_10 F2_12 (Or.inl (tw hw 103 rfl)) (tw hw 39 rfl) (ty := .int) (by decide) rfl rfl (g := (mkF m 40 #[rv sba, rv sta, iv 2] [(.int (Int32.ofNat (csa.length + 2))), (.ref sba)])) rfl rfl (hb hby d19_40)
  have K16 : Keep h0 h16 [sba, ta] := K9.wr W16 (Or.inl (List.mem_of_getElem? (i := 0) rfl))
  have N16 := Fr.snoc X16 N9 P17
  have Fw16 : Fld Z h16 sba sq2 "count" "I" (.int (Int32.ofNat (csa.length + 2))) := F2_10.same W16
  have F3_17 : Fld Z h16 sba sq2 "value" "[B" (.ref b21) := F2_13.other W16 (Or.inr (slot_ne (Or.inl (tw hw 63 rfl)) (Or.inl (tw hw 103 rfl)) (by decide) (t := (.array .byte)) (t' := .int) (by decide) (by decide)))
  have F3_18 : Exa Z h16 sba sq4 := F2_12.wr W16
  have F3_19 : Fld Z h16 sba sq2 "coder" "B" (.int 0) := F2_14.other W16 (Or.inr (slot_ne (Or.inl (tw hw 65 rfl)) (Or.inl (tw hw 103 rfl)) (by decide) (t := .byte) (t' := .int) (by decide) (by decide)))
  have F3_20 : Fld Z h16 sba sq2 "maybeLatin1" "Z" (.int 0) := F2_15.other W16 (Or.inr (slot_ne (Or.inl (tw hw 275 rfl)) (Or.inl (tw hw 103 rfl)) (by decide) (t := .boolean) (t' := .int) (by decide) (by decide)))
  have F3_21 : Exa Z h16 b21 "[B" := Fq9_0.wr W16
  have F3_22 : Arv Z h16 b21 k22 .byte (Int32.ofNat nq3) ((own_lo csa) ++ (own_lo [e0a, e1a])) (.int (0 : Int32)) := Fq9_1.other W16 hne3
  obtain ⟨fs, hr, hrun, hended, hW, hsame⟩ := X16.leave (v := some (.ref sba)) (fun h => by rw [hre] at h; cases h)
  refine ⟨_, _, pre0 _ ?_, hrun, hended, _, _, rfl, ?_, ⟨_, rfl⟩, hW, hsame.mono (by decide) (by decide)⟩
  · show SF p e below s₁ (mkF m 0 #[rv sba, rv sta, .unset] []) _
    refine XS.aloadN X0.here hx rfl (hb hby d19_0) rfl rfl ?_
    refine XS.ifnonnullYes X0.here hx rfl (pc0 := 1) (pc' := 9) rfl (hb hby d19_1) rfl (by decide) (by decide) ?_
    refine XS.aloadN X0.here hx rfl (hb hby d19_9) rfl rfl ?_
    refine st1.trans ?_
    refine XS.istoreN X1.here hx rfl (hb hby d19_13) rfl (l' := #[rv sba, rv sta, iv 2]) rfl ?_
    refine XS.aloadN X1.here hx rfl (hb hby d19_14) rfl rfl ?_
    refine XS.aloadN X1.here hx rfl (hb hby d19_15) rfl rfl ?_
    refine st2 _ ?_
    refine XS.iloadN X2.here hx rfl (hb hby d19_19) rfl ?_
    refine XS.iadd X2.here hx rfl (hb hby d19_20) rfl ?_
    show SF p e below T2 (mkF m 21 #[rv sba, rv sta, iv 2] [(.int ((Int32.ofNat csa.length) + (2 : Int32))), (.ref sba)]) _
    rw [(show ((Int32.ofNat csa.length) + (2 : Int32)) = (Int32.ofNat (csa.length + 2)) from own_addk _ 2)]
    refine st3.trans ?_
    refine XS.aloadN X3.here hx rfl (hb hby d19_24) rfl rfl ?_
    refine XS.aloadN X3.here hx rfl (hb hby d19_25) rfl rfl ?_
    refine st4 _ ?_
    refine XS.aloadN X4.here hx rfl (hb hby d19_29) rfl rfl ?_
    refine st9.trans ?_
    refine XS.aloadN X9.here hx rfl (hb hby d19_33) rfl rfl ?_
    refine XS.dup X9.here hx rfl (hb hby d19_34) rfl rfl ?_
    refine st11 _ ?_
    refine XS.iloadN X11.here hx rfl (hb hby d19_38) rfl ?_
    refine XS.iadd X11.here hx rfl (hb hby d19_39) rfl ?_
    show SF p e below T11 (mkF m 40 #[rv sba, rv sta, iv 2] [(.int ((Int32.ofNat csa.length) + (2 : Int32))), (.ref sba)]) _
    rw [(show ((Int32.ofNat csa.length) + (2 : Int32)) = (Int32.ofNat (csa.length + 2)) from own_addk _ 2)]
    refine st16 _ ?_
    refine XS.aloadN X16.here hx rfl (hb hby d19_43) rfl rfl ?_
    exact own_retR X16 hx hre rfl rfl (hb hby d19_44) hr
  · show QA Z sba ta (csa ++ [e0a, e1a]) h0 n0 _ T16.heap _
    rw [e16]
    have hlen1 : (csa ++ [e0a, e1a]).length = csa.length + 2 := by simp
    exact ⟨b21, hor3, rfl, N16, K16, k22, nq3, (0 : Int32), F3_18, F3_17, F3_19, by rw [hlen1]; exact Fw16, F3_20, F3_21, hne3, P17, hgt3, by rw [hlen1]; omega, by omega, by omega, Or.inl ⟨rfl, (own_lo_app csa [e0a, e1a] ▸ F3_22), fun c hc => (List.mem_append.mp hc).elim (hall c) (fun q => (he c q).2)⟩⟩
theorem d27_17 : D27 17 (.aload_n 0) 1 := by decide +kernel
theorem d27_18 : D27 18 (.invokevirtual 195) 3 := by decide +kernel
theorem d51_7 : D51 7 (.return_) 1 := by decide +kernel
def Q51_38 (Z : State) (u1 : Addr) (GC : Int32) (h0 : Heap) (n0 : Nat) (v : Option Value) (h : Heap) (L : List Loc) : Prop := v = none ∧ Fr n0 L ∧ h = h0
theorem rm51_38 (l : Launch) (Z : State) (a0 : Array Value) (hw : HW Z a0) (ws : List Jvm.Cond) (u1 : Addr) (GC : Int32) (h0 : Heap) (n0 : Nat) (Z0 : n0 ≤ h0.size) (P1 : Exa Z h0 u1 sq4) (Sg0 : Sta Z Z.heap sq3 "COMPACT_STRINGS" "Z" (.int GC)) (P3 : Old Z n0 h0) (nzGC : ¬ (GC = (0 : Int32))) (P5 : Fld Z h0 u1 sq2 "coder" "B" (.int 1)) :
    MF l Z mq8 (Jvm.Cond.code mq8 jdk_68_method_11_code 2 none) ws rq2 #[(.ref u1)] h0 (Q51_38 Z u1 GC h0 n0) := by
  refine own_enter (plainFor_of_name pn_4) fun p e s m below meth c s₁ X0 hx hby hml hown hnm hZ e0 hre hlk => ?_
  have N0 := Fr.nil n0
  have pre0 : ∀ t, SF p e below s₁ (mkF m 0 #[rv u1, .unset] []) t → SF p e below s₁ (entryFrame m #[(.ref u1)] 2) t := fun t k => castTop (ef_10 m u1) k
  obtain ⟨cq1, kq1, q1a, q1b, q1c⟩ := isOf hZ e0 P1
  obtain ⟨_, _, ⟨T1, L1, k1x, n1⟩, -, X1, ⟨Lc1, hQ1, l1, y1, z1⟩, st1⟩ := X0.virtualBack hx (y := mq10) (z := mq10) hown (mvT hZ (tw hw 205 rfl)) (mvT hZ (tw hw 178 rfl)) (notFace_of_selects (args := #[]) (mvT hZ (tw hw 180 rfl))) (mvT hZ (tw hw 180 rfl)) (mvT hZ (tw hw 179 rfl)) (by decide) (backOf (W := 0) (rm35_32 l Z a0 hw [] u1 GC h0 n0 Z0 Sg0 P3 nzGC P5) hZ (tw hw 181 rfl) (tw hw 58 rfl) (by decide) (by decide)) q1a q1c (g := (mkF m 1 #[rv u1, .unset] [(.ref u1)])) rfl (by rw [hml]; rfl) (Steps.refl _) (argsL := []) (rest := []) (lenOf pd_6 rfl) rfl (Nat.le_of_eq rfl) (hb hby d51_1) (fun _ _ => ⟨rfl, e0, (by decide : 0 + 0 ≤ _), (by decide : 0 + 0 ≤ _)⟩)
  dsimp only [Pt.U, Pt.locs, Pt.cells, Pt.slots] at X1 l1 y1 z1 st1 hQ1
  subst l1 y1 z1
  obtain ⟨rfl, N1q, e1⟩ := hQ1
  have N1 := Fr.app N0 N1q
  obtain ⟨fs, hr, hrun, hended, hW, hsame⟩ := X1.leave (v := none) (fun _ => rfl)
  refine ⟨_, _, pre0 _ ?_, hrun, hended, _, _, rfl, ?_, ⟨_, rfl⟩, hW, hsame.mono (by decide) (by decide)⟩
  · show SF p e below s₁ (mkF m 0 #[rv u1, .unset] []) _
    refine XS.aloadN X0.here hx rfl (hb hby d51_0) rfl rfl ?_
    refine st1.trans ?_
    refine XS.ifNo X1.here hx rfl (hb hby d51_4) rfl ((if0 _ _).trans (teq (by decide : (0 : Int32) = (0 : Int32))).2) ?_
    exact X1.returnOut hx hre (hb hby d51_7) hr
  · show Q51_38 Z u1 GC h0 n0 _ T1.heap _
    rw [e1]
    exact ⟨rfl, N1, rfl⟩
def Q27_39 (Z : State) (u1 : Addr) (u2 : Addr) (GC : Int32) (h0 : Heap) (n0 : Nat) (v : Option Value) (h : Heap) (L : List Loc) : Prop := v = none ∧ Fr n0 L ∧ h = h0
theorem rm27_39 (l : Launch) (Z : State) (a0 : Array Value) (hw : HW Z a0) (ws : List Jvm.Cond) (u1 : Addr) (u2 : Addr) (GC : Int32) (h0 : Heap) (n0 : Nat) (Z0 : n0 ≤ h0.size) (Sg0 : Sta Z Z.heap sq3 "COMPACT_STRINGS" "Z" (.int GC)) (P2 : Old Z n0 h0) (nzGC : ¬ (GC = (0 : Int32))) (P4 : Fld Z h0 u1 sq2 "coder" "B" (.int 1)) (P5 : Exa Z h0 u2 sq3) (P6 : Fld Z h0 u2 sq3 "coder" "B" (.int 0)) (P7 : Exa Z h0 u1 sq4) :
    MF l Z mq9 (Jvm.Cond.code mq9 jdk_68_method_71_code 2 none) ws ({ frames := 2, cells := 0, slots := 0, locals := 25 } : Room) #[(.ref u1), (.ref u2)] h0 (Q27_39 Z u1 u2 GC h0 n0) := by
  refine own_enter (plainFor_of_name pn_4) fun p e s m below meth c s₁ X0 hx hby hml hown hnm hZ e0 hre hlk => ?_
  have N0 := Fr.nil n0
  have pre0 : ∀ t, SF p e below s₁ (mkF m 0 #[rv u1, rv u2] []) t → SF p e below s₁ (entryFrame m #[(.ref u1), (.ref u2)] 2) t := fun t k => castTop (ef_26 m u1 u2) k
  obtain ⟨T1, X1, e1, st1⟩ := getS2 X0 hx hZ hown (host := "") (Or.inl (tw hw 61 rfl)) Via.refl e0 (Sg0.ext P2.2) (g := (mkF m 0 #[rv u1, rv u2] [])) rfl (hb hby d27_0)
  obtain ⟨T2, X2, e2, st2⟩ := getF X1 hx hZ hown (host := "") (Or.inl (tw hw 64 rfl)) Via.refl e1 P4 (g := (mkF m 7 #[rv u1, rv u2] [(.ref u1)])) rfl rfl (hb hby d27_7)
  obtain ⟨cq3, kq3, q3a, q3b, q3c⟩ := isOf hZ e2 P5
  obtain ⟨_, _, ⟨T3, L3, k3x, n3⟩, -, X3, ⟨Lc3, hQ3, l3, y3, z3⟩, st3⟩ := X2.virtualBack hx (y := mq23) (z := mq23) hown (mvT hZ (tw hw 145 rfl)) (mvT hZ (tw hw 47 rfl)) (notFace_of_selects (args := #[]) (mvT hZ (tw hw 49 rfl))) (mvT hZ (tw hw 49 rfl)) (mvT hZ (tw hw 48 rfl)) (by decide) (backOf (W := 1) (rm10_33 l Z a0 hw [] u2 GC h0 n0 Z0 Sg0 P2 nzGC P6) hZ (tw hw 50 rfl) (tw hw 6 rfl) (by decide) (by decide)) q3a q3c (g := (mkF m 11 #[rv u1, rv u2] [(.ref u2), (.int 1)])) rfl (by rw [hml]; rfl) (Steps.refl _) (argsL := []) (rest := [(.int 1)]) (lenOf pd_18 rfl) rfl (Nat.le_of_eq rfl) (hb hby d27_11) (fun _ _ => ⟨rfl, e2, (by decide : 0 + 0 ≤ _), (by decide : 0 + 0 ≤ _)⟩)
  dsimp only [Pt.U, Pt.locs, Pt.cells, Pt.slots] at X3 l3 y3 z3 st3 hQ3
  subst l3 y3 z3
  obtain ⟨rfl, N3q, e3⟩ := hQ3
  have N3 := Fr.app N0 N3q
  obtain ⟨cq4, q4, q4'⟩ := P7.cell
  obtain ⟨_, _, ⟨T4, L4, k4x, n4⟩, -, X4, ⟨Lc4, hQ4, l4, y4, z4⟩, st4⟩ := X3.privateBack hx (y := mq8) hown (mvT hZ (tw hw 250 rfl)) (mvT hZ (tw hw 251 rfl)) (own_selR hZ (tw hw 253 rfl) (tw hw 252 rfl) (tw hw 251 rfl) (by decide)) (Cond.privateMethod_at (mvP hZ (tw hw 252 rfl) (args := #[]))) (mvT hZ (tw hw 254 rfl)) (by decide) (backOf (W := 0) (rm51_38 l Z a0 hw [] u1 GC h0 n0 Z0 P7 Sg0 P2 nzGC P4) hZ (tw hw 254 rfl) (tw hw 58 rfl) (by decide) (by decide)) (g := (mkF m 18 #[rv u1, rv u2] [(.ref u1)])) rfl (by rw [hml]; rfl) (Steps.refl _) (a := u1) (by rw [e3]; exact q4) q4' (argsL := []) (rest := []) (lenOf pd_16 rfl) rfl (Nat.le_of_eq rfl) (hb hby d27_18) (fun _ _ => ⟨rfl, e3, (by decide : 0 + 0 ≤ _), (by decide : 0 + 0 ≤ _)⟩)
  dsimp only [Pt.U, Pt.locs, Pt.cells, Pt.slots] at X4 l4 y4 z4 st4 hQ4
  subst l4 y4 z4
  obtain ⟨rfl, N4q, e4⟩ := hQ4
  have N4 := Fr.app N3 N4q
  obtain ⟨fs, hr, hrun, hended, hW, hsame⟩ := X4.leave (v := none) (fun _ => rfl)
  refine ⟨_, _, pre0 _ ?_, hrun, hended, _, _, rfl, ?_, ⟨_, rfl⟩, hW, hsame.mono (by decide) (by decide)⟩
  · show SF p e below s₁ (mkF m 0 #[rv u1, rv u2] []) _
    refine st1 _ ?_
    refine XS.ifNo X1.here hx rfl (hb hby d27_3) rfl ((if0 _ _).trans (feq nzGC).1) ?_
    refine XS.aloadN X1.here hx rfl (hb hby d27_6) rfl rfl ?_
    refine st2 _ ?_
    refine XS.aloadN X2.here hx rfl (hb hby d27_10) rfl rfl ?_
    refine st3.trans ?_
    refine XS.icmpNo X3.here hx rfl (hb hby d27_14) rfl (feq (by decide : ¬ ((1 : Int32) = (0 : Int32)))).1 ?_
    refine XS.aloadN X3.here hx rfl (hb hby d27_17) rfl rfl ?_
    refine st4.trans ?_
    exact X4.returnOut hx hre (hb hby d27_21) hr
  · show Q27_39 Z u1 u2 GC h0 n0 _ T4.heap _
    rw [e4]
    exact ⟨rfl, N4, rfl⟩
theorem d28_28 : D28 28 (.aload_n 0) 1 := by decide +kernel
theorem d28_29 : D28 29 (.getfield 9) 3 := by decide +kernel
theorem d28_32 : D28 32 (.iconst 0) 1 := by decide +kernel
theorem d28_33 : D28 33 (.aload_n 1) 1 := by decide +kernel
theorem d28_34 : D28 34 (.iload_n 2) 1 := by decide +kernel
theorem d28_35 : D28 35 (.aload_n 0) 1 := by decide +kernel
theorem d28_36 : D28 36 (.getfield 9) 3 := by decide +kernel
theorem d28_39 : D28 39 (.arraylength) 1 := by decide +kernel
theorem d28_40 : D28 40 (.invokestatic 106) 3 := by decide +kernel
def Q28_40 (Z : State) (u1 : Addr) (u2 : Addr) (u3 : List Int32) (GC : Int32) (u4 : Addr) (u5 : ClassId) (u6 : Int32) (u7 : Int32) (u8 : ClassId) (u9 : Nat) (GF : Value) (h0 : Heap) (n0 : Nat) (v : Option Value) (h : Heap) (L : List Loc) : Prop := v = none ∧ Fr n0 L ∧ Keep h0 h [u2] ∧ Exa Z h u2 "[B" ∧ Arv Z h u2 u8 .byte (Int32.ofNat (2 * u9)) ((own_wd u3) ++ own_wd [u6, u7]) (.int (0 : Int32))
theorem rm28_40 (l : Launch) (Z : State) (a0 : Array Value) (hw : HW Z a0) (ws : List Jvm.Cond) (u1 : Addr) (u2 : Addr) (u3 : List Int32) (GC : Int32) (u4 : Addr) (u5 : ClassId) (u6 : Int32) (u7 : Int32) (u8 : ClassId) (u9 : Nat) (GF : Value) (h0 : Heap) (n0 : Nat) (Z0 : n0 ≤ h0.size) (P1 : Exa Z h0 u1 sq3) (Sg0 : Sta Z Z.heap sq3 "COMPACT_STRINGS" "Z" (.int GC)) (P3 : Old Z n0 h0) (nzGC : ¬ (GC = (0 : Int32))) (P5 : Fld Z h0 u1 sq3 "coder" "B" (.int 0)) (P6 : Fld Z h0 u1 sq3 "value" "[B" (.ref u4)) (P7 : Arv Z h0 u4 u5 .byte (2 : Int32) (own_lo [u6, u7]) (.int (0 : Int32))) (P8 : Exa Z h0 u2 "[B") (P9 : Arv Z h0 u2 u8 .byte (Int32.ofNat (2 * u9)) (own_wd u3) (.int (0 : Int32))) (P10 : St Z GC GF) (P11 : ([u6, u7]).length ≤ ((2 : Int32)).toNatClampNeg) (P12 : ∀ c ∈ [u6, u7], ¬ c < 0 ∧ ¬ (255 : Int32) < c) (P13 : ((own_wd u3)).length = 2 * (u3.length)) (P14 : (u3.length) + ([u6, u7]).length ≤ u9) (P15 : u9 < 13) (P16 : n0 ≤ u2) (P17 : u4 ≠ u2) :
    MF l Z mq24 (Jvm.Cond.code mq24 jdk_42_method_147_code 4 none) ws ({ frames := 6, cells := 0, slots := 0, locals := 103 } : Room) #[(.ref u1), (.ref u2), (.int (Int32.ofNat u3.length)), (.int 1)] h0 (Q28_40 Z u1 u2 u3 GC u4 u5 u6 u7 u8 u9 GF h0 n0) := by
  refine own_enter (plainFor_of_name pn_2) fun p e s m below meth c s₁ X0 hx hby hml hown hnm hZ e0 hre hlk => ?_
  have N0 := Fr.nil n0
  have pre0 : ∀ t, SF p e below s₁ (mkF m 0 #[rv u1, rv u2, iv (Int32.ofNat u3.length), iv 1] []) t → SF p e below s₁ (entryFrame m #[(.ref u1), (.ref u2), (.int (Int32.ofNat u3.length)), (.int 1)] 4) t := fun t k => castTop (ef_27 m u1 u2 (Int32.ofNat u3.length) (1 : Int32)) k
  obtain ⟨cq1, kq1, q1a, q1b, q1c⟩ := isOf hZ e0 P1
  obtain ⟨_, _, ⟨T1, L1, k1x, n1⟩, -, X1, ⟨Lc1, hQ1, l1, y1, z1⟩, st1⟩ := X0.virtualBack hx (y := mq23) (z := mq23) hown (mvT hZ (tw hw 46 rfl)) (mvT hZ (tw hw 47 rfl)) (notFace_of_selects (args := #[]) (mvT hZ (tw hw 49 rfl))) (mvT hZ (tw hw 49 rfl)) (mvT hZ (tw hw 48 rfl)) (by decide) (backOf (W := 0) (rm10_33 l Z a0 hw [] u1 GC h0 n0 Z0 Sg0 P3 nzGC P5) hZ (tw hw 50 rfl) (tw hw 6 rfl) (by decide) (by decide)) q1a q1c (g := (mkF m 1 #[rv u1, rv u2, iv (Int32.ofNat u3.length), iv 1] [(.ref u1)])) rfl (by rw [hml]; rfl) (Steps.refl _) (argsL := []) (rest := []) (lenOf pd_18 rfl) rfl (Nat.le_of_eq rfl) (hb hby d28_1) (fun _ _ => ⟨rfl, e0, (by decide : 0 + 0 ≤ _), (by decide : 0 + 0 ≤ _)⟩)
  dsimp only [Pt.U, Pt.locs, Pt.cells, Pt.slots] at X1 l1 y1 z1 st1 hQ1
  subst l1 y1 z1
  obtain ⟨rfl, N1q, e1⟩ := hQ1
  have N1 := Fr.app N0 N1q
  obtain ⟨T2, X2, e2, st2⟩ := getF X1 hx hZ hown (host := "") (Or.inl (tw hw 32 rfl)) Via.refl e1 P6 (g := (mkF m 29 #[rv u1, rv u2, iv (Int32.ofNat u3.length), iv 1] [(.ref u1)])) rfl rfl (hb hby d28_29)
  obtain ⟨T3, X3, e3, st3⟩ := getF X2 hx hZ hown (host := "") (Or.inl (tw hw 32 rfl)) Via.refl e2 P6 (g := (mkF m 36 #[rv u1, rv u2, iv (Int32.ofNat u3.length), iv 1] [(.ref u1), (.int (Int32.ofNat u3.length)), (.ref u2), (.int 0), (.ref u4)])) rfl rfl (hb hby d28_36)
  obtain ⟨cl4, Ar4, q4, S4, N4z, H4, G4⟩ := id P7
  obtain ⟨_, _, ⟨T5, L5, k5x, n5⟩, -, X5, ⟨Lc5, hQ5, l5, y5, z5⟩, st5⟩ := Jvm.LawKit.callS X3 hx (y := mq33) hown (mvT hZ (tw hw 276 rfl)) (mvT hZ (tw hw 257 rfl)) (mvT hZ (tw hw 78 rfl)) (mvT hZ (tw hw 258 rfl)) (by decide) (backOf (W := 0) (infS l Z a0 hw [] GC GF u4 u2 u5 u8 (2 : Int32) u9 (u3.length) [u6, u7] (own_wd u3) h0 n0 Z0 P10 P3 P7 P9 P8 P11 P12 P13 P14 P15 P16 P17) hZ (tw hw 258 rfl) (tw hw 78 rfl) (by decide) (by decide)) (g := (mkF m 40 #[rv u1, rv u2, iv (Int32.ofNat u3.length), iv 1] [(.int 2), (.int (Int32.ofNat u3.length)), (.ref u2), (.int 0), (.ref u4)])) rfl (by rw [hml]; rfl) (argsL := [(.ref u4), (.int 0), (.ref u2), (.int (Int32.ofNat u3.length)), (.int 2)]) (rest := []) (lenOf pd_5 rfl) rfl (Nat.le_of_eq rfl) (hb hby d28_40) (fun _ _ => ⟨rfl, e3, (by decide : 0 + 0 ≤ _), (by decide : 0 + 0 ≤ _)⟩)
  dsimp only [Pt.U, Pt.locs, Pt.cells, Pt.slots] at X5 l5 y5 z5 st5 hQ5
  subst l5 y5 z5
  obtain ⟨rfl, N5q, K5c, Fq5_0, Fq5_1⟩ := hQ5
  have K5 : Keep h0 T5.heap [u2] := (Keep.refl h0 [u2]).trans K5c (allS (Or.inl (List.mem_of_getElem? (i := 0) rfl)) all0)
  have N5 := Fr.app N1 N5q
  obtain ⟨fs, hr, hrun, hended, hW, hsame⟩ := X5.leave (v := none) (fun _ => rfl)
  refine ⟨_, _, pre0 _ ?_, hrun, hended, _, _, rfl, ?_, ⟨_, rfl⟩, hW, hsame.mono (by decide) (by decide)⟩
  · show SF p e below s₁ (mkF m 0 #[rv u1, rv u2, iv (Int32.ofNat u3.length), iv 1] []) _
    refine XS.aloadN X0.here hx rfl (hb hby d28_0) rfl rfl ?_
    refine st1.trans ?_
    refine XS.iloadN X1.here hx rfl (hb hby d28_4) rfl ?_
    refine XS.icmpYes X1.here hx rfl (pc0 := 5) (pc' := 28) rfl (hb hby d28_5) rfl (feq (by decide : ¬ ((0 : Int32) = (1 : Int32)))).2 (by decide) (by decide) ?_
    refine XS.aloadN X1.here hx rfl (hb hby d28_28) rfl rfl ?_
    refine st2 _ ?_
    refine XS.iconst X2.here hx rfl (hb hby d28_32) ?_
    refine XS.aloadN X2.here hx rfl (hb hby d28_33) rfl rfl ?_
    refine XS.iloadN X2.here hx rfl (hb hby d28_34) rfl ?_
    refine XS.aloadN X2.here hx rfl (hb hby d28_35) rfl rfl ?_
    refine st3 _ ?_
    refine X3.arraylength hx (by rw [e3]; exact Ar4.1) (State.isArrayOf_alike hZ.alike Ar4.2.1) (g := (mkF m 39 #[rv u1, rv u2, iv (Int32.ofNat u3.length), iv 1] [(.ref u4), (.int (Int32.ofNat u3.length)), (.ref u2), (.int 0), (.ref u4)])) rfl rfl (hb hby d28_39) _ ?_
    rw [len_of S4 N4z]
    refine st5 _ ?_
    exact X5.returnOut hx hre (hb hby d28_43) hr
  · show Q28_40 Z u1 u2 u3 GC u4 u5 u6 u7 u8 u9 GF h0 n0 _ T5.heap _
    exact ⟨rfl, N5, K5, Fq5_1, Fq5_0⟩
def Q26_41 (Z : State) (u1 : Addr) (u2 : List Int32) (u3 : Addr) (GC : Int32) (u4 : Addr) (u5 : Addr) (u6 : ClassId) (u7 : Int32) (u8 : Int32) (u9 : ClassId) (u10 : Nat) (GF : Value) (h0 : Heap) (n0 : Nat) (v : Option Value) (h : Heap) (L : List Loc) : Prop := v = none ∧ Fr n0 L ∧ Keep h0 h [u4] ∧ Exa Z h u4 "[B" ∧ Arv Z h u4 u9 .byte (Int32.ofNat (2 * u10)) ((own_wd u2) ++ own_wd [u7, u8]) (.int (0 : Int32))
theorem rm26_41 (l : Launch) (Z : State) (a0 : Array Value) (hw : HW Z a0) (ws : List Jvm.Cond) (u1 : Addr) (u2 : List Int32) (u3 : Addr) (GC : Int32) (u4 : Addr) (u5 : Addr) (u6 : ClassId) (u7 : Int32) (u8 : Int32) (u9 : ClassId) (u10 : Nat) (GF : Value) (h0 : Heap) (n0 : Nat) (Z0 : n0 ≤ h0.size) (P1 : Exa Z h0 u1 sq4) (Sg0 : Sta Z Z.heap sq3 "COMPACT_STRINGS" "Z" (.int GC)) (P3 : Old Z n0 h0) (nzGC : ¬ (GC = (0 : Int32))) (P5 : Fld Z h0 u1 sq2 "coder" "B" (.int 1)) (P6 : Exa Z h0 u3 sq3) (P7 : Fld Z h0 u3 sq3 "coder" "B" (.int 0)) (P8 : Fld Z h0 u1 sq2 "value" "[B" (.ref u4)) (P9 : Fld Z h0 u3 sq3 "value" "[B" (.ref u5)) (P10 : Arv Z h0 u5 u6 .byte (2 : Int32) (own_lo [u7, u8]) (.int (0 : Int32))) (P11 : Exa Z h0 u4 "[B") (P12 : Arv Z h0 u4 u9 .byte (Int32.ofNat (2 * u10)) (own_wd u2) (.int (0 : Int32))) (P13 : St Z GC GF) (P14 : ([u7, u8]).length ≤ ((2 : Int32)).toNatClampNeg) (P15 : ∀ c ∈ [u7, u8], ¬ c < 0 ∧ ¬ (255 : Int32) < c) (P16 : ((own_wd u2)).length = 2 * (u2.length)) (P17 : (u2.length) + ([u7, u8]).length ≤ u10) (P18 : u10 < 13) (P19 : n0 ≤ u4) (P20 : u5 ≠ u4) :
    MF l Z mq13 (Jvm.Cond.code mq13 jdk_68_method_73_code 3 none) ws ({ frames := 7, cells := 0, slots := 0, locals := 118 } : Room) #[(.ref u1), (.int (Int32.ofNat u2.length)), (.ref u3)] h0 (Q26_41 Z u1 u2 u3 GC u4 u5 u6 u7 u8 u9 u10 GF h0 n0) := by
  refine own_enter (plainFor_of_name pn_4) fun p e s m below meth c s₁ X0 hx hby hml hown hnm hZ e0 hre hlk => ?_
  have N0 := Fr.nil n0
  have pre0 : ∀ t, SF p e below s₁ (mkF m 0 #[rv u1, iv (Int32.ofNat u2.length), rv u3] []) t → SF p e below s₁ (entryFrame m #[(.ref u1), (.int (Int32.ofNat u2.length)), (.ref u3)] 3) t := fun t k => castTop (ef_28 m u1 (Int32.ofNat u2.length) u3) k
  obtain ⟨cq1, q1, q1'⟩ := P1.cell
  obtain ⟨_, _, ⟨T1, L1, k1x, n1⟩, -, X1, ⟨Lc1, hQ1, l1, y1, z1⟩, st1⟩ := X0.privateBack hx (y := mq9) hown (mvT hZ (tw hw 140 rfl)) (mvT hZ (tw hw 141 rfl)) (own_selR hZ (tw hw 143 rfl) (tw hw 142 rfl) (tw hw 141 rfl) (by decide)) (Cond.privateMethod_at (mvP hZ (tw hw 142 rfl) (args := #[]))) (mvT hZ (tw hw 144 rfl)) (by decide) (backOf (W := 0) (rm27_39 l Z a0 hw [] u1 u3 GC h0 n0 Z0 Sg0 P3 nzGC P5 P6 P7 P1) hZ (tw hw 144 rfl) (tw hw 58 rfl) (by decide) (by decide)) (g := (mkF m 2 #[rv u1, iv (Int32.ofNat u2.length), rv u3] [(.ref u3), (.ref u1)])) rfl (by rw [hml]; rfl) (Steps.refl _) (a := u1) (by rw [e0]; exact q1) q1' (argsL := [(.ref u3)]) (rest := []) (lenOf pd_20 rfl) rfl (Nat.le_of_eq rfl) (hb hby d26_2) (fun _ _ => ⟨rfl, e0, (by decide : 0 + 0 ≤ _), (by decide : 0 + 0 ≤ _)⟩)
  dsimp only [Pt.U, Pt.locs, Pt.cells, Pt.slots] at X1 l1 y1 z1 st1 hQ1
  subst l1 y1 z1
  obtain ⟨rfl, N1q, e1⟩ := hQ1
  have N1 := Fr.app N0 N1q
  obtain ⟨T2, X2, e2, st2⟩ := getF X1 hx hZ hown (host := "") (Or.inl (tw hw 62 rfl)) Via.refl e1 P8 (g := (mkF m 7 #[rv u1, iv (Int32.ofNat u2.length), rv u3] [(.ref u1), (.ref u3)])) rfl rfl (hb hby d26_7)
  obtain ⟨T3, X3, e3, st3⟩ := getF X2 hx hZ hown (host := "") (Or.inl (tw hw 64 rfl)) Via.refl e2 P5 (g := (mkF m 12 #[rv u1, iv (Int32.ofNat u2.length), rv u3] [(.ref u1), (.int (Int32.ofNat u2.length)), (.ref u4), (.ref u3)])) rfl rfl (hb hby d26_12)
  obtain ⟨cq4, kq4, q4a, q4b, q4c⟩ := isOf hZ e3 P6
  obtain ⟨_, _, ⟨T4, L4, k4x, n4⟩, -, X4, ⟨Lc4, hQ4, l4, y4, z4⟩, st4⟩ := X3.virtualBack hx (y := mq24) (z := mq24) hown (mvT hZ (tw hw 146 rfl)) (mvT hZ (tw hw 147 rfl)) (notFace_of_selects (args := #[]) (mvT hZ (tw hw 149 rfl))) (mvT hZ (tw hw 149 rfl)) (mvT hZ (tw hw 148 rfl)) (by decide) (backOf (W := 0) (rm28_40 l Z a0 hw [] u3 u4 u2 GC u5 u6 u7 u8 u9 u10 GF h0 n0 Z0 P6 Sg0 P3 nzGC P7 P9 P10 P11 P12 P13 P14 P15 P16 P17 P18 P19 P20) hZ (tw hw 150 rfl) (tw hw 6 rfl) (by decide) (by decide)) q4a q4c (g := (mkF m 15 #[rv u1, iv (Int32.ofNat u2.length), rv u3] [(.int 1), (.int (Int32.ofNat u2.length)), (.ref u4), (.ref u3)])) rfl (by rw [hml]; rfl) (Steps.refl _) (argsL := [(.ref u4), (.int (Int32.ofNat u2.length)), (.int 1)]) (rest := []) (lenOf pd_21 rfl) rfl (Nat.le_of_eq rfl) (hb hby d26_15) (fun _ _ => ⟨rfl, e3, (by decide : 0 + 0 ≤ _), (by decide : 0 + 0 ≤ _)⟩)
  dsimp only [Pt.U, Pt.locs, Pt.cells, Pt.slots] at X4 l4 y4 z4 st4 hQ4
  subst l4 y4 z4
  obtain ⟨rfl, N4q, K4c, Fq4_0, Fq4_1⟩ := hQ4
  have K4 : Keep h0 T4.heap [u4] := (Keep.refl h0 [u4]).trans K4c (allS (Or.inl (List.mem_of_getElem? (i := 0) rfl)) all0)
  have N4 := Fr.app N1 N4q
  obtain ⟨fs, hr, hrun, hended, hW, hsame⟩ := X4.leave (v := none) (fun _ => rfl)
  refine ⟨_, _, pre0 _ ?_, hrun, hended, _, _, rfl, ?_, ⟨_, rfl⟩, hW, hsame.mono (by decide) (by decide)⟩
  · show SF p e below s₁ (mkF m 0 #[rv u1, iv (Int32.ofNat u2.length), rv u3] []) _
    refine XS.aloadN X0.here hx rfl (hb hby d26_0) rfl rfl ?_
    refine XS.aloadN X0.here hx rfl (hb hby d26_1) rfl rfl ?_
    refine st1.trans ?_
    refine XS.aloadN X1.here hx rfl (hb hby d26_5) rfl rfl ?_
    refine XS.aloadN X1.here hx rfl (hb hby d26_6) rfl rfl ?_
    refine st2 _ ?_
    refine XS.iloadN X2.here hx rfl (hb hby d26_10) rfl ?_
    refine XS.aloadN X2.here hx rfl (hb hby d26_11) rfl rfl ?_
    refine st3 _ ?_
    refine st4.trans ?_
    exact X4.returnOut hx hre (hb hby d26_18) hr
  · show Q26_41 Z u1 u2 u3 GC u4 u5 u6 u7 u8 u9 u10 GF h0 n0 _ T4.heap _
    exact ⟨rfl, N4, K4, Fq4_0, Fq4_1⟩
theorem aasU (l : Launch) (Z : State) (a0 : Array Value) (hw : HW Z a0) (ws : List Jvm.Cond) (sba : Addr) (sta : Addr) (stb : Addr) (ksb : ClassId) (e0a : Int32) (e1a : Int32) (GC : Int32) (csa : List Int32) (ta : Addr) (kta : ClassId) (nna : Nat) (GF : Value) (h0 : Heap) (n0 : Nat) (Z0 : n0 ≤ h0.size) (P1 : Exa Z h0 sta sq3) (P2 : Fld Z h0 sta sq3 "value" "[B" (.ref stb)) (P3 : Arv Z h0 stb ksb .byte (2 : Int32) (own_lo [e0a, e1a]) (.int (0 : Int32))) (Sg0 : Sta Z Z.heap sq3 "COMPACT_STRINGS" "Z" (.int GC)) (P5 : Old Z n0 h0) (nzGC : ¬ (GC = (0 : Int32))) (P7 : Fld Z h0 sta sq3 "coder" "B" (.int 0)) (P8 : Fld Z h0 sba sq2 "count" "I" (.int (Int32.ofNat csa.length))) (P9 : Exa Z h0 sba sq4) (P10 : Fld Z h0 sba sq2 "value" "[B" (.ref ta)) (P11 : Fld Z h0 sba sq2 "coder" "B" (.int 1)) (P12 : Fld Z h0 sba sq2 "maybeLatin1" "Z" (.int 0)) (P13 : Arv Z h0 ta kta .byte (Int32.ofNat (2 * nna)) (own_wd csa) (.int (0 : Int32))) (P14 : St Z GC GF) (P15 : Exa Z h0 ta "[B") (P16 : ta ≠ sba) (P17 : n0 ≤ sba) (P18 : n0 ≤ ta) (P19 : csa.length ≤ nna) (P20 : nna < 13) (P21 : csa.length < 7) (P22 : (csa.length + 2) < 7) (P23 : (csa.length + 2) ≤ nna + 2) (P24 : 0 < nna) (P25 : sta ≠ sba) (P26 : stb ≠ sba) (P27 : ([e0a, e1a]).length ≤ ((2 : Int32)).toNatClampNeg) (P28 : ∀ c ∈ [e0a, e1a], ¬ c < 0 ∧ ¬ (255 : Int32) < c) (P29 : ((own_wd csa)).length = 2 * (csa.length)) (P30 : stb ≠ ta) (P31 : stb < h0.size) (hex : ∃ c ∈ csa, (255 : Int32) < c) :
    MF l Z mq5 (Jvm.Cond.code mq5 jdk_68_method_22_code 3 (some (.object sq2))) ws rq21 #[(.ref sba), (.ref sta)] h0 (QA Z sba ta (csa ++ [e0a, e1a]) h0 n0) := by
  refine own_enter (plainFor_of_name pn_4) fun p e s m below meth c s₁ X0 hx hby hml hown hnm hZ e0 hre hlk => ?_
  have N0 := Fr.nil n0
  have pre0 : ∀ t, SF p e below s₁ (mkF m 0 #[rv sba, rv sta, .unset] []) t → SF p e below s₁ (entryFrame m #[(.ref sba), (.ref sta)] 3) t := fun t k => castTop (ef_29 m sba sta) k
  obtain ⟨cq1, kq1, q1a, q1b, q1c⟩ := isOf hZ e0 P1
  obtain ⟨_, _, ⟨T1, L1, k1x, n1⟩, -, X1, ⟨Lc1, hQ1, l1, y1, z1⟩, st1⟩ := X0.virtualBack hx (y := mq26) (z := mq26) hown (mvT hZ (tw hw 101 rfl)) (mvT hZ (tw hw 42 rfl)) (notFace_of_selects (args := #[]) (mvT hZ (tw hw 44 rfl))) (mvT hZ (tw hw 44 rfl)) (mvT hZ (tw hw 43 rfl)) (by decide) (backOf (W := 0) (rm9_34 l Z a0 hw [] sta stb ksb e0a e1a GC h0 n0 Z0 P2 P3 P1 Sg0 P5 nzGC P7) hZ (tw hw 45 rfl) (tw hw 6 rfl) (by decide) (by decide)) q1a q1c (g := (mkF m 10 #[rv sba, rv sta, .unset] [(.ref sta)])) rfl (by rw [hml]; rfl) (Steps.refl _) (argsL := []) (rest := []) (lenOf pd_19 rfl) rfl (Nat.le_of_eq rfl) (hb hby d19_10) (fun _ _ => ⟨rfl, e0, (by decide : 0 + 0 ≤ _), (by decide : 0 + 0 ≤ _)⟩)
  dsimp only [Pt.U, Pt.locs, Pt.cells, Pt.slots] at X1 l1 y1 z1 st1 hQ1
  subst l1 y1 z1
  obtain ⟨rfl, N1q, e1⟩ := hQ1
  have N1 := Fr.app N0 N1q
  obtain ⟨T2, X2, e2, st2⟩ := getF X1 hx hZ hown (host := "") (Or.inl (tw hw 102 rfl)) Via.refl e1 P8 (g := (mkF m 16 #[rv sba, rv sta, iv 2] [(.ref sba), (.ref sba)])) rfl rfl (hb hby d19_16)
  obtain ⟨cq3, q3, q3'⟩ := P9.cell
  obtain ⟨_, _, ⟨T3, L3, k3x, n3⟩, -, X3, ⟨Lc3, hQ3, l3, y3, z3⟩, st3⟩ := X2.privateBack hx (y := mq6) hown (mvT hZ (tw hw 104 rfl)) (mvT hZ (tw hw 105 rfl)) (own_selR hZ (tw hw 107 rfl) (tw hw 106 rfl) (tw hw 105 rfl) (by decide)) (Cond.privateMethod_at (mvP hZ (tw hw 106 rfl) (args := #[]))) (mvT hZ (tw hw 108 rfl)) (by decide) (backOf (W := 0) (ens1 l Z a0 hw [] GC GF sba ta kta nna (csa.length + 2) csa h0 n0 Z0 P14 P5 P9 P10 P11 P8 P12 P15 P13 P16 P17 P18 P19 P20 P21 P22 P23 P24) hZ (tw hw 108 rfl) (tw hw 58 rfl) (by decide) (by decide)) (g := (mkF m 21 #[rv sba, rv sta, iv 2] [(.int (Int32.ofNat (csa.length + 2))), (.ref sba)])) rfl (by rw [hml]; rfl) (Steps.refl _) (a := sba) (by rw [e2]; exact q3) q3' (argsL := [(.int (Int32.ofNat (csa.length + 2)))]) (rest := []) (lenOf pd_14 rfl) rfl (Nat.le_of_eq rfl) (hb hby d19_21) (fun _ _ => ⟨rfl, e2, (by decide : 0 + 1 ≤ _), (by decide : 0 + 24 ≤ _)⟩)
  dsimp only [Pt.U, Pt.locs, Pt.cells, Pt.slots] at X3 l3 y3 z3 st3 hQ3
  subst l3 y3 z3
  obtain ⟨b23, k24, nq3, hor3, hne3, hgt3, hmi3, hnq3, rfl, N3q, K3c, Fq3_0, Fq3_1, Fq3_2, Fq3_3, Fq3_4, Fq3_5, Fq3_6⟩ := hQ3
  have K3 : Keep h0 T3.heap [sba, ta] := (Keep.refl h0 [sba, ta]).trans K3c (allS (Or.inl (List.mem_of_getElem? (i := 0) rfl)) all0)
  have N3 := Fr.app N1 N3q
  obtain ⟨T4, X4, e4, st4⟩ := getF X3 hx hZ hown (host := "") (Or.inl (tw hw 102 rfl)) Via.refl rfl Fq3_3 (g := (mkF m 26 #[rv sba, rv sta, iv 2] [(.ref sba), (.ref sba)])) rfl rfl (hb hby d19_26)
  have O3 : Old Z n0 T3.heap := P5.keep K3c (allS P17 all0)
  have F1_5 : Exa Z T3.heap sta sq3 := P1.keep K3c
  have F1_6 : Fld Z T3.heap sta sq3 "coder" "B" (.int 0) := P7.keep K3c (ninS P25 nin0)
  have F1_7 : Fld Z T3.heap sta sq3 "value" "[B" (.ref stb) := P2.keep K3c (ninS P25 nin0)
  have F1_8 : Arv Z T3.heap stb ksb .byte (2 : Int32) (own_lo [e0a, e1a]) (.int (0 : Int32)) := P3.keep K3c (ninS P26 nin0)
  have Z3 : n0 ≤ T3.heap.size := Nat.le_trans Z0 K3c.1
  obtain ⟨cq9, q9, q9'⟩ := Fq3_0.cell
  obtain ⟨_, _, ⟨T9, L9, k9x, n9⟩, -, X9, ⟨Lc9, hQ9, l9, y9, z9⟩, st9⟩ := X4.privateBack hx (y := mq13) hown (mvT hZ (tw hw 135 rfl)) (mvT hZ (tw hw 136 rfl)) (own_selR hZ (tw hw 138 rfl) (tw hw 137 rfl) (tw hw 136 rfl) (by decide)) (Cond.privateMethod_at (mvP hZ (tw hw 137 rfl) (args := #[]))) (mvT hZ (tw hw 139 rfl)) (by decide) (backOf (W := 0) (rm26_41 l Z a0 hw [] sba csa sta GC b23 stb ksb e0a e1a k24 nq3 GF T3.heap n0 Z3 Fq3_0 Sg0 O3 nzGC Fq3_2 F1_5 F1_6 Fq3_1 F1_7 F1_8 Fq3_5 Fq3_6 P14 P27 P28 P29 (show (csa.length) + 2 ≤ nq3 from by omega) (show nq3 < 13 from by omega) hgt3 (own_nor hor3 P30 P31)) hZ (tw hw 139 rfl) (tw hw 58 rfl) (by decide) (by decide)) (g := (mkF m 30 #[rv sba, rv sta, iv 2] [(.ref sta), (.int (Int32.ofNat csa.length)), (.ref sba)])) rfl (by rw [hml]; rfl) (Steps.refl _) (a := sba) (by rw [e4]; exact q9) q9' (argsL := [(.int (Int32.ofNat csa.length)), (.ref sta)]) (rest := []) (lenOf pd_22 rfl) rfl (Nat.le_of_eq rfl) (hb hby d19_30) (fun _ _ => ⟨rfl, e4, (by decide : 1 + 0 ≤ _), (by decide : 24 + 0 ≤ _)⟩)
  dsimp only [Pt.U, Pt.locs, Pt.cells, Pt.slots] at X9 l9 y9 z9 st9 hQ9
  subst l9 y9 z9
  obtain ⟨rfl, N9q, K9c, Fq9_0, Fq9_1⟩ := hQ9
  have K9 : Keep h0 T9.heap [sba, ta] := K3.trans K9c (allS (own_or hor3 (List.mem_of_getElem? (i := 1) rfl) (Keep.refl h0 [sba, ta]).1) all0)
  have N9 := Fr.app N3 N9q
  have F2_10 : Fld Z T9.heap sba sq2 "count" "I" (.int (Int32.ofNat csa.length)) := Fq3_3.keep K9c (ninS (Ne.symm hne3) nin0)
  obtain ⟨T11, X11, e11, st11⟩ := getF X9 hx hZ hown (host := "") (Or.inl (tw hw 102 rfl)) Via.refl rfl F2_10 (g := (mkF m 35 #[rv sba, rv sta, iv 2] [(.ref sba), (.ref sba)])) rfl rfl (hb hby d19_35)
  have F2_12 : Exa Z T9.heap sba sq4 := Fq3_0.keep K9c
  have F2_13 : Fld Z T9.heap sba sq2 "value" "[B" (.ref b23) := Fq3_1.keep K9c (ninS (Ne.symm hne3) nin0)
  have F2_14 : Fld Z T9.heap sba sq2 "coder" "B" (.int 1) := Fq3_2.keep K9c (ninS (Ne.symm hne3) nin0)
  have F2_15 : Fld Z T9.heap sba sq2 "maybeLatin1" "Z" (.int 0) := Fq3_4.keep K9c (ninS (Ne.symm hne3) nin0)
  obtain ⟨T16, h16, X16, e16, W16, st16⟩ := putF X11 hx hZ hown (host := "") (Or.inl (tw hw 102 rfl)) Via.refl e11 F2_10 F2_12 (Or.inl (tw hw 103 rfl)) (tw hw 39 rfl) (ty := .int) (by decide) rfl rfl (g := (mkF m 40 #[rv sba, rv sta, iv 2] [(.int (Int32.ofNat (csa.length + 2))), (.ref sba)])) rfl rfl (hb hby d19_40)
  have K16 : Keep h0 h16 [sba, ta] := K9.wr W16 (Or.inl (List.mem_of_getElem? (i := 0) rfl))
  have N16 := Fr.snoc X16 N9 P17
  have Fw16 : Fld Z h16 sba sq2 "count" "I" (.int (Int32.ofNat (csa.length + 2))) := F2_10.same W16
  have F3_17 : Fld Z h16 sba sq2 "value" "[B" (.ref b23) := F2_13.other W16 (Or.inr (slot_ne (Or.inl (tw hw 63 rfl)) (Or.inl (tw hw 103 rfl)) (by decide) (t := (.array .byte)) (t' := .int) (by decide) (by decide)))
  have F3_18 : Exa Z h16 sba sq4 := F2_12.wr W16
  have F3_19 : Fld Z h16 sba sq2 "coder" "B" (.int 1) := F2_14.other W16 (Or.inr (slot_ne (Or.inl (tw hw 65 rfl)) (Or.inl (tw hw 103 rfl)) (by decide) (t := .byte) (t' := .int) (by decide) (by decide)))
  have F3_20 : Fld Z h16 sba sq2 "maybeLatin1" "Z" (.int 0) := F2_15.other W16 (Or.inr (slot_ne (Or.inl (tw hw 275 rfl)) (Or.inl (tw hw 103 rfl)) (by decide) (t := .boolean) (t' := .int) (by decide) (by decide)))
  have F3_21 : Exa Z h16 b23 "[B" := Fq9_0.wr W16
  have F3_22 : Arv Z h16 b23 k24 .byte (Int32.ofNat (2 * nq3)) ((own_wd csa) ++ own_wd [e0a, e1a]) (.int (0 : Int32)) := Fq9_1.other W16 hne3
  obtain ⟨fs, hr, hrun, hended, hW, hsame⟩ := X16.leave (v := some (.ref sba)) (fun h => by rw [hre] at h; cases h)
  refine ⟨_, _, pre0 _ ?_, hrun, hended, _, _, rfl, ?_, ⟨_, rfl⟩, hW, hsame.mono (by decide) (by decide)⟩
  · show SF p e below s₁ (mkF m 0 #[rv sba, rv sta, .unset] []) _
    refine XS.aloadN X0.here hx rfl (hb hby d19_0) rfl rfl ?_
    refine XS.ifnonnullYes X0.here hx rfl (pc0 := 1) (pc' := 9) rfl (hb hby d19_1) rfl (by decide) (by decide) ?_
    refine XS.aloadN X0.here hx rfl (hb hby d19_9) rfl rfl ?_
    refine st1.trans ?_
    refine XS.istoreN X1.here hx rfl (hb hby d19_13) rfl (l' := #[rv sba, rv sta, iv 2]) rfl ?_
    refine XS.aloadN X1.here hx rfl (hb hby d19_14) rfl rfl ?_
    refine XS.aloadN X1.here hx rfl (hb hby d19_15) rfl rfl ?_
    refine st2 _ ?_
    refine XS.iloadN X2.here hx rfl (hb hby d19_19) rfl ?_
    refine XS.iadd X2.here hx rfl (hb hby d19_20) rfl ?_
    show SF p e below T2 (mkF m 21 #[rv sba, rv sta, iv 2] [(.int ((Int32.ofNat csa.length) + (2 : Int32))), (.ref sba)]) _
    rw [(show ((Int32.ofNat csa.length) + (2 : Int32)) = (Int32.ofNat (csa.length + 2)) from own_addk _ 2)]
    refine st3.trans ?_
    refine XS.aloadN X3.here hx rfl (hb hby d19_24) rfl rfl ?_
    refine XS.aloadN X3.here hx rfl (hb hby d19_25) rfl rfl ?_
    refine st4 _ ?_
    refine XS.aloadN X4.here hx rfl (hb hby d19_29) rfl rfl ?_
    refine st9.trans ?_
    refine XS.aloadN X9.here hx rfl (hb hby d19_33) rfl rfl ?_
    refine XS.dup X9.here hx rfl (hb hby d19_34) rfl rfl ?_
    refine st11 _ ?_
    refine XS.iloadN X11.here hx rfl (hb hby d19_38) rfl ?_
    refine XS.iadd X11.here hx rfl (hb hby d19_39) rfl ?_
    show SF p e below T11 (mkF m 40 #[rv sba, rv sta, iv 2] [(.int ((Int32.ofNat csa.length) + (2 : Int32))), (.ref sba)]) _
    rw [(show ((Int32.ofNat csa.length) + (2 : Int32)) = (Int32.ofNat (csa.length + 2)) from own_addk _ 2)]
    refine st16 _ ?_
    refine XS.aloadN X16.here hx rfl (hb hby d19_43) rfl rfl ?_
    exact own_retR X16 hx hre rfl rfl (hb hby d19_44) hr
  · show QA Z sba ta (csa ++ [e0a, e1a]) h0 n0 _ T16.heap _
    rw [e16]
    have hlen1 : (csa ++ [e0a, e1a]).length = csa.length + 2 := by simp
    exact ⟨b23, hor3, rfl, N16, K16, k24, nq3, (1 : Int32), F3_18, F3_17, F3_19, by rw [hlen1]; exact Fw16, F3_20, F3_21, hne3, P17, hgt3, by rw [hlen1]; omega, by omega, by omega, Or.inr ⟨rfl, (own_wd_app csa [e0a, e1a] ▸ F3_22), hex.choose, List.mem_append.mpr (Or.inl hex.choose_spec.1), hex.choose_spec.2⟩⟩
theorem aas (l : Launch) (Z : State) (a0 : Array Value) (hw : HW Z a0) (ws : List Jvm.Cond) (GC : Int32) (GF : Value) (sba ta sta stb : Addr) (ksb : ClassId) (csa : List Int32) (e0a e1a : Int32) (h0 : Heap) (n0 : Nat) (Z0 : n0 ≤ h0.size) (S : St Z GC GF) (O : Old Z n0 h0) (B : Bld Z h0 n0 1 sba ta csa) (hk : csa.length < 5) (Es : Exa Z h0 sta sq3) (Vs : Fld Z h0 sta sq3 "value" "[B" (.ref stb)) (Cs : Fld Z h0 sta sq3 "coder" "B" (.int 0)) (As : Arv Z h0 stb ksb .byte (2 : Int32) (own_lo [e0a, e1a]) (.int (0 : Int32))) (n1 : sta ≠ sba) (n2 : stb ≠ sba) (n3 : sta ≠ ta) (n4 : stb ≠ ta) (he : ∀ c ∈ [e0a, e1a], ¬ c < 0 ∧ ¬ (255 : Int32) < c) :
    MF l Z mq5 (Jvm.Cond.code mq5 jdk_68_method_22_code 3 (some (.object sq2))) ws rq21 #[(.ref sba), (.ref sta)] h0 (QA Z sba ta (csa ++ [e0a, e1a]) h0 n0) := by
  obtain ⟨k, n, cd, Eb, Fv, Fc, Fn, Fm, Et, ne, gs, gt, hkn, hn1, hn, hor⟩ := B
  rcases hor with ⟨rfl, At, hall⟩ | ⟨rfl, At, hex⟩
  · exact aasL l Z a0 hw ws sba sta stb ksb e0a e1a GC csa ta k n GF h0 n0 Z0 Es Vs As S.1 O S.2.2.2.1 Cs Fn Eb Fv Fc Fm At S Et ne gs gt (by omega) (by omega) (by omega) (by omega) (by omega) (by omega) n1 n2 (by simp only [List.nil_append, List.length_append, own_lo_len]; exact ((by decide +kernel : ∀ q < 7, ((((Int32.ofNat q)).toNatClampNeg = q ∧ ¬ (Int32.ofNat q) < 0) ∧ True)) csa.length (by omega)).1) hall he
  · exact aasU l Z a0 hw ws sba sta stb ksb e0a e1a GC csa ta k n GF h0 n0 Z0 Es Vs As S.1 O S.2.2.2.1 Cs Fn Eb Fv Fc Fm At S Et ne gs gt (by omega) (by omega) (by omega) (by omega) (by omega) (by omega) n1 n2 (Nat.le_refl 2) he (own_wd_len csa) n4 As.lt hex
abbrev D18 (n : Nat) (i : Instr) (k : Nat) : Prop := decode jdk_67_method_7_code n = .ok (i, k)
theorem d18_0 : D18 0 (.aload_n 0) 1 := by decide +kernel
theorem d18_1 : D18 1 (.aload_n 1) 1 := by decide +kernel
theorem d18_2 : D18 2 (.invokespecial 29) 3 := by decide +kernel
theorem pd_23 : parseMethodDescriptor "(Ljava/lang/String;)Ljava/lang/AbstractStringBuilder;" = some ⟨[(.object sq3)], some (.object sq2)⟩ := by decide +kernel
theorem d18_5 : D18 5 (.pop) 1 := by decide +kernel
theorem d18_6 : D18 6 (.aload_n 0) 1 := by decide +kernel
theorem d18_7 : D18 7 (.areturn) 1 := by decide +kernel
theorem ef_30 (m : MethodId) (x0 : Addr) (x1 : Addr) : entryFrame m #[(.ref x0), (.ref x1)] 2 = mkF m 0 #[.val (.ref x0), .val (.ref x1)] [] := by first | (simp [entryFrame, mkF, argsToLocals, Value.category]; done) | rfl
theorem sbs0 (l : Launch) (Z : State) (a0 : Array Value) (hw : HW Z a0) (ws : List Jvm.Cond) (sba : Addr) (sta : Addr) (GC : Int32) (GF : Value) (ta : Addr) (csa : List Int32) (stb : Addr) (ksb : ClassId) (e0a : Int32) (e1a : Int32) (h0 : Heap) (n0 : Nat) (Z0 : n0 ≤ h0.size) (P1 : St Z GC GF) (P2 : Old Z n0 h0) (P3 : Bld Z h0 n0 1 sba ta csa) (P4 : csa.length < 5) (P5 : Exa Z h0 sta sq3) (P6 : Fld Z h0 sta sq3 "value" "[B" (.ref stb)) (P7 : Fld Z h0 sta sq3 "coder" "B" (.int 0)) (P8 : Arv Z h0 stb ksb .byte (2 : Int32) (own_lo [e0a, e1a]) (.int (0 : Int32))) (P9 : sta ≠ sba) (P10 : stb ≠ sba) (P11 : sta ≠ ta) (P12 : stb ≠ ta) (P13 : ∀ c ∈ [e0a, e1a], ¬ c < 0 ∧ ¬ (255 : Int32) < c) (P14 : Exa Z h0 sba sq4) :
    MF l Z mq29 (Jvm.Cond.code mq29 jdk_67_method_7_code 2 (some (.object sq4))) ws rq24 #[(.ref sba), (.ref sta)] h0 (QA Z sba ta (csa ++ [e0a, e1a]) h0 n0) := by
  refine own_enter (plainFor_of_name pn_7) fun p e s m below meth c s₁ X0 hx hby hml hown hnm hZ e0 hre hlk => ?_
  have N0 := Fr.nil n0
  have pre0 : ∀ t, SF p e below s₁ (mkF m 0 #[rv sba, rv sta] []) t → SF p e below s₁ (entryFrame m #[(.ref sba), (.ref sta)] 2) t := fun t k => castTop (ef_30 m sba sta) k
  obtain ⟨_, _, ⟨T1, L1, k1x, n1⟩, -, X1, ⟨Lc1, hQ1, l1, y1, z1⟩, st1⟩ := superBack X0 hx hZ (y := mq5) hown (tw hw 96 rfl) (own_same (y := mq5) (n' := "ensureCapacityInternal") (d' := "(I)V") (tw hw 107 rfl) (tw hw 97 rfl) (by decide)) (tw hw 97 rfl) (tw hw 98 rfl) (by decide) (backOf (W := 0) (aas l Z a0 hw [] GC GF sba ta sta stb ksb csa e0a e1a h0 n0 Z0 P1 P2 P3 P4 P5 P6 P7 P8 P9 P10 P11 P12 P13) hZ (tw hw 100 rfl) (tw hw 58 rfl) (by decide) (by decide)) e0 (Ins.self P14) (g := (mkF m 2 #[rv sba, rv sta] [(.ref sta), (.ref sba)])) rfl (by rw [hml]; rfl) (tw hw 100 rfl) (argsL := [(.ref sta)]) (rest := []) (lenOf pd_23 rfl) rfl (Nat.le_of_eq rfl) (hb hby d18_2) (fun _ _ => ⟨rfl, e0, (by decide : 0 + 1 ≤ _), (by decide : 0 + 24 ≤ _)⟩)
  dsimp only [Pt.U, Pt.locs, Pt.cells, Pt.slots] at X1 l1 y1 z1 st1 hQ1
  subst l1 y1 z1
  obtain ⟨tq, hor, rfl, N1q, K1c, Bq⟩ := hQ1
  have K1 : Keep h0 T1.heap [sba, ta] := (Keep.refl h0 [sba, ta]).trans K1c (allS (Or.inl (List.mem_of_getElem? (i := 0) rfl)) (allS (Or.inl (List.mem_of_getElem? (i := 1) rfl)) all0))
  have N1 := Fr.app N0 N1q
  obtain ⟨fs, hr, hrun, hended, hW, hsame⟩ := X1.leave (v := some (.ref sba)) (fun h => by rw [hre] at h; cases h)
  refine ⟨_, _, pre0 _ ?_, hrun, hended, _, _, rfl, ?_, ⟨_, rfl⟩, hW, hsame.mono (by decide) (by decide)⟩
  · show SF p e below s₁ (mkF m 0 #[rv sba, rv sta] []) _
    refine XS.aloadN X0.here hx rfl (hb hby d18_0) rfl rfl ?_
    refine XS.aloadN X0.here hx rfl (hb hby d18_1) rfl rfl ?_
    refine st1.trans ?_
    refine XS.pop X1.here hx rfl (hb hby d18_5) rfl rfl ?_
    refine XS.aloadN X1.here hx rfl (hb hby d18_6) rfl rfl ?_
    exact own_retR X1 hx hre rfl rfl (hb hby d18_7) hr
  · show QA Z sba ta (csa ++ [e0a, e1a]) h0 n0 _ T1.heap _
    exact ⟨tq, hor, rfl, N1, K1, Bq⟩
theorem sbs (l : Launch) (Z : State) (a0 : Array Value) (hw : HW Z a0) (ws : List Jvm.Cond) (GC : Int32) (GF : Value) (sba ta sta stb : Addr) (ksb : ClassId) (csa : List Int32) (e0a e1a : Int32) (h0 : Heap) (n0 : Nat) (Z0 : n0 ≤ h0.size) (S : St Z GC GF) (O : Old Z n0 h0) (B : Bld Z h0 n0 1 sba ta csa) (hk : csa.length < 5) (Es : Exa Z h0 sta sq3) (Vs : Fld Z h0 sta sq3 "value" "[B" (.ref stb)) (Cs : Fld Z h0 sta sq3 "coder" "B" (.int 0)) (As : Arv Z h0 stb ksb .byte (2 : Int32) (own_lo [e0a, e1a]) (.int (0 : Int32))) (n1 : sta ≠ sba) (n2 : stb ≠ sba) (n3 : sta ≠ ta) (n4 : stb ≠ ta) (he : ∀ c ∈ [e0a, e1a], ¬ c < 0 ∧ ¬ (255 : Int32) < c) :
    MF l Z mq29 (Jvm.Cond.code mq29 jdk_67_method_7_code 2 (some (.object sq4))) ws rq24 #[(.ref sba), (.ref sta)] h0 (QA Z sba ta (csa ++ [e0a, e1a]) h0 n0) := sbs0 l Z a0 hw ws sba sta GC GF ta csa stb ksb e0a e1a h0 n0 Z0 S O B hk Es Vs Cs As n1 n2 n3 n4 he (B.choose_spec.choose_spec.choose_spec.1)
abbrev D36 (n : Nat) (i : Instr) (k : Nat) : Prop := decode jdk_65_method_132_code n = .ok (i, k)
theorem d36_0 : D36 0 (.iload_n 1) 1 := by decide +kernel
theorem d36_1 : D36 1 (.ifCond .ne 9) 3 := by decide +kernel
theorem d36_4 : D36 4 (.iload_n 2) 1 := by decide +kernel
theorem d36_5 : D36 5 (.aload_n 0) 1 := by decide +kernel
theorem d36_6 : D36 6 (.arraylength) 1 := by decide +kernel
theorem d36_7 : D36 7 (.if_icmp .eq 10) 3 := by decide +kernel
theorem d36_17 : D36 17 (.aload_n 0) 1 := by decide +kernel
theorem d36_18 : D36 18 (.invokevirtual 310) 3 := by decide +kernel
theorem d36_21 : D36 21 (.checkcast 311) 3 := by decide +kernel
theorem d36_24 : D36 24 (.areturn) 1 := by decide +kernel
theorem ef_31 (m : MethodId) (x0 : Addr) (x1 : Int32) (x2 : Int32) : entryFrame m #[(.ref x0), (.int x1), (.int x2)] 3 = mkF m 0 #[.val (.ref x0), .val (.int x1), .val (.int x2)] [] := by first | (simp [entryFrame, mkF, argsToLocals, Value.category]; done) | rfl
def Q36_42 (Z : State) (u1 : Addr) (u2 : Nat) (u3 : ClassId) (u4 : Nat) (u5 : List Value) (h0 : Heap) (n0 : Nat) (v : Option Value) (h : Heap) (L : List Loc) : Prop := ∃ e1x : Addr, h0.size ≤ e1x ∧ v = some (.ref e1x) ∧ Fr n0 L ∧ Keep h0 h [] ∧ Arv Z h e1x u3 .byte (Int32.ofNat u4) u5 (.int (0 : Int32)) ∧ Exa Z h e1x "[B"
theorem rm36_42 (l : Launch) (Z : State) (a0 : Array Value) (hw : HW Z a0) (ws : List Jvm.Cond) (u1 : Addr) (u2 : Nat) (u3 : ClassId) (u4 : Nat) (u5 : List Value) (h0 : Heap) (n0 : Nat) (Z0 : n0 ≤ h0.size) (P1 : Arv Z h0 u1 u3 .byte (Int32.ofNat u4) u5 (.int (0 : Int32))) (P2 : (Int32.ofNat u2) = (Int32.ofNat u4)) (P3 : Exa Z h0 u1 "[B") (P4 : ((Int32.ofNat u4)).toNatClampNeg ≤ 24) :
    MF l Z mq50 (Jvm.Cond.code mq50 jdk_65_method_132_code 3 (some (.array .byte))) ws rq12 #[(.ref u1), (.int 0), (.int (Int32.ofNat u2))] h0 (Q36_42 Z u1 u2 u3 u4 u5 h0 n0) := by
  refine own_enter (plainFor_of_name pn_6) fun p e s m below meth c s₁ X0 hx hby hml hown hnm hZ e0 hre hlk => ?_
  have N0 := Fr.nil n0
  have pre0 : ∀ t, SF p e below s₁ (mkF m 0 #[rv u1, iv 0, iv (Int32.ofNat u2)] []) t → SF p e below s₁ (entryFrame m #[(.ref u1), (.int 0), (.int (Int32.ofNat u2))] 3) t := fun t k => castTop (ef_31 m u1 (0 : Int32) (Int32.ofNat u2)) k
  obtain ⟨cl1, Ar1, q1, S1, N1z, H1, G1⟩ := id P1
  obtain ⟨T2, h2, X2, e2, E2, V2, Ex2, st2⟩ := own_clone X0 hx hZ hown (tw hw 212 rfl) (tw hw 213 rfl) (tw hw 217 rfl) (tw hw 215 rfl) (tw hw 216 rfl) (tw hw 218 rfl) e0 P1 P3 (g := (mkF m 18 #[rv u1, iv 0, iv (Int32.ofNat u2)] [(.ref u1)])) rfl (by rw [hml]; rfl) rfl (hb hby d36_18) (by decide) (W := 0) (cap := 24) (Nat.le_of_eq rfl) (by decide) P4 (by decide) (by decide)
  obtain ⟨e1x, g2⟩ : ∃ z, z = h0.size := ⟨_, rfl⟩
  rw [← g2] at V2 st2 Ex2
  have K2 : Keep h0 h2 [] := (Keep.refl h0 []).ext E2
  obtain ⟨T3, X3, e3, st3⟩ := castY X2 hx hZ hown (tw hw 219 rfl) e2 (Ins.self Ex2) (g := (mkF m 21 #[rv u1, iv 0, iv (Int32.ofNat u2)] [(.ref e1x)])) rfl rfl (hb hby d36_21)
  have sz0_b25 : h0.size ≤ e1x := Nat.le_trans (Keep.refl h0 []).1 (Nat.le_of_eq g2.symm)
  obtain ⟨fs, hr, hrun, hended, hW, hsame⟩ := X3.leave (v := some (.ref e1x)) (fun h => by rw [hre] at h; cases h)
  refine ⟨_, _, pre0 _ ?_, hrun, hended, _, _, rfl, ?_, ⟨_, rfl⟩, hW, hsame.mono (by decide) (by decide)⟩
  · show SF p e below s₁ (mkF m 0 #[rv u1, iv 0, iv (Int32.ofNat u2)] []) _
    refine XS.iloadN X0.here hx rfl (hb hby d36_0) rfl ?_
    refine XS.ifNo X0.here hx rfl (hb hby d36_1) rfl ((if0 _ _).trans (teq (by decide : (0 : Int32) = (0 : Int32))).2) ?_
    refine XS.iloadN X0.here hx rfl (hb hby d36_4) rfl ?_
    refine XS.aloadN X0.here hx rfl (hb hby d36_5) rfl rfl ?_
    refine X0.arraylength hx (by rw [e0]; exact Ar1.1) (State.isArrayOf_alike hZ.alike Ar1.2.1) (g := (mkF m 6 #[rv u1, iv 0, iv (Int32.ofNat u2)] [(.ref u1), (.int (Int32.ofNat u2))])) rfl rfl (hb hby d36_6) _ ?_
    rw [len_of S1 N1z]
    refine XS.icmpYes X0.here hx rfl (pc0 := 7) (pc' := 17) rfl (hb hby d36_7) rfl (teq P2).1 (by decide) (by decide) ?_
    refine XS.aloadN X0.here hx rfl (hb hby d36_17) rfl rfl ?_
    refine st2 _ ?_
    refine st3 _ ?_
    exact own_retR X3 hx hre rfl rfl (hb hby d36_24) hr
  · show Q36_42 Z u1 u2 u3 u4 u5 h0 n0 _ T3.heap _
    rw [e3]
    exact ⟨e1x, sz0_b25, rfl, N0, K2, V2, Ex2⟩
theorem d36_10 : D36 10 (.aload_n 0) 1 := by decide +kernel
theorem d36_11 : D36 11 (.iload_n 1) 1 := by decide +kernel
theorem d36_12 : D36 12 (.iload_n 2) 1 := by decide +kernel
theorem d36_13 : D36 13 (.invokestatic 339) 3 := by decide +kernel
abbrev D37 (n : Nat) (i : Instr) (k : Nat) : Prop := decode jdk_65_method_133_code n = .ok (i, k)
theorem d37_0 : D37 0 (.iload_n 1) 1 := by decide +kernel
theorem d37_1 : D37 1 (.iload_n 2) 1 := by decide +kernel
theorem d37_2 : D37 2 (.invokestatic 343) 3 := by decide +kernel
abbrev D38 (n : Nat) (i : Instr) (k : Nat) : Prop := decode jdk_65_method_131_code n = .ok (i, k)
theorem d38_0 : D38 0 (.iload_n 1) 1 := by decide +kernel
theorem d38_1 : D38 1 (.iload_n 0) 1 := by decide +kernel
theorem d38_2 : D38 2 (.if_icmp .ge 35) 3 := by decide +kernel
theorem d38_37 : D38 37 (.return_) 1 := by decide +kernel
theorem ef_32 (m : MethodId) (x0 : Int32) (x1 : Int32) : entryFrame m #[(.int x0), (.int x1)] 2 = mkF m 0 #[.val (.int x0), .val (.int x1)] [] := by first | (simp [entryFrame, mkF, argsToLocals, Value.category]; done) | rfl
def Q38_43 (Z : State) (u1 : Nat) (h0 : Heap) (n0 : Nat) (v : Option Value) (h : Heap) (L : List Loc) : Prop := v = none ∧ Fr n0 L ∧ h = h0
theorem rm38_43 (l : Launch) (Z : State) (a0 : Array Value) (hw : HW Z a0) (ws : List Jvm.Cond) (u1 : Nat) (h0 : Heap) (n0 : Nat) (Z0 : n0 ≤ h0.size) (P1 : ¬ ((Int32.ofNat u1) < (0 : Int32))) :
    MF l Z mq48 (Jvm.Cond.code mq48 jdk_65_method_131_code 2 none) ws rq0 #[(.int 0), (.int (Int32.ofNat u1))] h0 (Q38_43 Z u1 h0 n0) := by
  refine own_enter (plainFor_of_name pn_6) fun p e s m below meth c s₁ X0 hx hby hml hown hnm hZ e0 hre hlk => ?_
  have N0 := Fr.nil n0
  have pre0 : ∀ t, SF p e below s₁ (mkF m 0 #[iv 0, iv (Int32.ofNat u1)] []) t → SF p e below s₁ (entryFrame m #[(.int 0), (.int (Int32.ofNat u1))] 2) t := fun t k => castTop (ef_32 m (0 : Int32) (Int32.ofNat u1)) k
  obtain ⟨fs, hr, hrun, hended, hW, hsame⟩ := X0.leave (v := none) (fun _ => rfl)
  refine ⟨_, _, pre0 _ ?_, hrun, hended, _, _, rfl, ?_, ⟨_, rfl⟩, hW, hsame.mono (by decide) (by decide)⟩
  · show SF p e below s₁ (mkF m 0 #[iv 0, iv (Int32.ofNat u1)] []) _
    refine XS.iloadN X0.here hx rfl (hb hby d38_0) rfl ?_
    refine XS.iloadN X0.here hx rfl (hb hby d38_1) rfl ?_
    refine XS.icmpYes X0.here hx rfl (pc0 := 2) (pc' := 37) rfl (hb hby d38_2) rfl (flt P1).2.1 (by decide) (by decide) ?_
    exact X0.returnOut hx hre (hb hby d38_37) hr
  · show Q38_43 Z u1 h0 n0 _ s₁.heap _
    rw [e0]
    exact ⟨rfl, N0, rfl⟩
theorem d37_5 : D37 5 (.iload_n 2) 1 := by decide +kernel
theorem d37_6 : D37 6 (.iload_n 1) 1 := by decide +kernel
theorem d37_7 : D37 7 (.isub) 1 := by decide +kernel
theorem d37_8 : D37 8 (.istore_n 3) 1 := by decide +kernel
theorem d37_9 : D37 9 (.iload_n 3) 1 := by decide +kernel
theorem d37_10 : D37 10 (.newarray .byte) 2 := by decide +kernel
theorem d37_12 : D37 12 (.astore 4) 2 := by decide +kernel
theorem d37_14 : D37 14 (.aload_n 0) 1 := by decide +kernel
theorem d37_15 : D37 15 (.iload_n 1) 1 := by decide +kernel
theorem d37_16 : D37 16 (.aload 4) 2 := by decide +kernel
theorem d37_18 : D37 18 (.iconst 0) 1 := by decide +kernel
theorem d37_19 : D37 19 (.aload_n 0) 1 := by decide +kernel
theorem d37_20 : D37 20 (.arraylength) 1 := by decide +kernel
theorem d37_21 : D37 21 (.iload_n 1) 1 := by decide +kernel
theorem d37_22 : D37 22 (.isub) 1 := by decide +kernel
theorem d37_23 : D37 23 (.iload_n 3) 1 := by decide +kernel
theorem d37_24 : D37 24 (.invokestatic 304) 3 := by decide +kernel
theorem d25_9 : D25 9 (.iload_n 1) 1 := by decide +kernel
def Q25_44 (Z : State) (u1 : Nat) (u2 : Nat) (h0 : Heap) (n0 : Nat) (v : Option Value) (h : Heap) (L : List Loc) : Prop := v = some (.int (Int32.ofNat u2)) ∧ Fr n0 L ∧ h = h0
theorem rm25_44 (l : Launch) (Z : State) (a0 : Array Value) (hw : HW Z a0) (ws : List Jvm.Cond) (u1 : Nat) (u2 : Nat) (h0 : Heap) (n0 : Nat) (Z0 : n0 ≤ h0.size) (P1 : (Int32.ofNat u2) < (Int32.ofNat u1)) :
    MF l Z mq15 (Jvm.Cond.code mq15 jdk_29_method_69_code 2 (some .int)) ws rq0 #[(.int (Int32.ofNat u1)), (.int (Int32.ofNat u2))] h0 (Q25_44 Z u1 u2 h0 n0) := by
  refine own_enter (Jvm.Free.JP.mathPlain rfl (by decide +kernel)) fun p e s m below meth c s₁ X0 hx hby hml hown hnm hZ e0 hre hlk => ?_
  have N0 := Fr.nil n0
  have pre0 : ∀ t, SF p e below s₁ (mkF m 0 #[iv (Int32.ofNat u1), iv (Int32.ofNat u2)] []) t → SF p e below s₁ (entryFrame m #[(.int (Int32.ofNat u1)), (.int (Int32.ofNat u2))] 2) t := fun t k => castTop (ef_15 m (Int32.ofNat u1) (Int32.ofNat u2)) k
  obtain ⟨fs, hr, hrun, hended, hW, hsame⟩ := X0.leave (v := some (.int (Int32.ofNat u2))) (fun h => by rw [hre] at h; cases h)
  refine ⟨_, _, pre0 _ ?_, hrun, hended, _, _, rfl, ?_, ⟨_, rfl⟩, hW, hsame.mono (by decide) (by decide)⟩
  · show SF p e below s₁ (mkF m 0 #[iv (Int32.ofNat u1), iv (Int32.ofNat u2)] []) _
    refine XS.iloadN X0.here hx rfl (hb hby d25_0) rfl ?_
    refine XS.iloadN X0.here hx rfl (hb hby d25_1) rfl ?_
    refine XS.icmpYes X0.here hx rfl (pc0 := 2) (pc' := 9) rfl (hb hby d25_2) rfl (tlt P1).2.2.1 (by decide) (by decide) ?_
    refine XS.iloadN X0.here hx rfl (hb hby d25_9) rfl ?_
    exact retI X0 hx hre (hb hby d25_10) hr
  · show Q25_44 Z u1 u2 h0 n0 _ s₁.heap _
    rw [e0]
    exact ⟨rfl, N0, rfl⟩
theorem d37_27 : D37 27 (.invokestatic 150) 3 := by decide +kernel
theorem d37_30 : D37 30 (.aload 4) 2 := by decide +kernel
theorem d37_32 : D37 32 (.areturn) 1 := by decide +kernel
theorem ef_33 (m : MethodId) (x0 : Addr) (x1 : Int32) (x2 : Int32) : entryFrame m #[(.ref x0), (.int x1), (.int x2)] 5 = mkF m 0 #[.val (.ref x0), .val (.int x1), .val (.int x2), .unset, .unset] [] := by first | (simp [entryFrame, mkF, argsToLocals, Value.category]; done) | rfl
def Q37_45 (Z : State) (u1 : Addr) (u2 : Nat) (u3 : ClassId) (u4 : Nat) (u5 : List Value) (h0 : Heap) (n0 : Nat) (v : Option Value) (h : Heap) (L : List Loc) : Prop := ∃ e1x : Addr, ∃ e2x : ClassId, h0.size ≤ e1x ∧ v = some (.ref e1x) ∧ Fr n0 L ∧ Keep h0 h [] ∧ Arv Z h e1x e2x .byte (Int32.ofNat u2) u5 (.int (0 : Int32)) ∧ Exa Z h e1x "[B"
theorem rm37_45 (l : Launch) (Z : State) (a0 : Array Value) (hw : HW Z a0) (ws : List Jvm.Cond) (u1 : Addr) (u2 : Nat) (u3 : ClassId) (u4 : Nat) (u5 : List Value) (h0 : Heap) (n0 : Nat) (Z0 : n0 ≤ h0.size) (P1 : ¬ ((Int32.ofNat u2) < (0 : Int32))) (P2 : ¬ (Int32.ofNat u2) < 0) (P3 : ((Int32.ofNat u2)).toNatClampNeg ≤ 24) (P4 : Arv Z h0 u1 u3 .byte (Int32.ofNat u4) u5 (.int (0 : Int32))) (P5 : (Int32.ofNat u2) < (Int32.ofNat u4)) (P6 : ((0 : Int32)).toNatClampNeg = ([] : List Value).length ∧ ¬ (0 : Int32) < 0) (P7 : ¬ (Int32.ofNat u2) < 0 ∧ u5.length ≤ ((Int32.ofNat u2)).toNatClampNeg ∧ ((Int32.ofNat u2)).toNatClampNeg ≤ ((Int32.ofNat u4)).toNatClampNeg ∧ ([] : List Value).length + ((Int32.ofNat u2)).toNatClampNeg ≤ ((Int32.ofNat u2)).toNatClampNeg) :
    MF l Z mq51 (Jvm.Cond.code mq51 jdk_65_method_133_code 5 (some (.array .byte))) ws rq6 #[(.ref u1), (.int 0), (.int (Int32.ofNat u2))] h0 (Q37_45 Z u1 u2 u3 u4 u5 h0 n0) := by
  refine own_enter (plainFor_of_name pn_6) fun p e s m below meth c s₁ X0 hx hby hml hown hnm hZ e0 hre hlk => ?_
  have N0 := Fr.nil n0
  have pre0 : ∀ t, SF p e below s₁ (mkF m 0 #[rv u1, iv 0, iv (Int32.ofNat u2), .unset, .unset] []) t → SF p e below s₁ (entryFrame m #[(.ref u1), (.int 0), (.int (Int32.ofNat u2))] 5) t := fun t k => castTop (ef_33 m u1 (0 : Int32) (Int32.ofNat u2)) k
  obtain ⟨_, _, ⟨T1, L1, k1x, n1⟩, -, X1, ⟨Lc1, hQ1, l1, y1, z1⟩, st1⟩ := Jvm.LawKit.callS X0 hx (y := mq48) hown (mvT hZ (tw hw 188 rfl)) (mvT hZ (tw hw 189 rfl)) (mvT hZ (tw hw 126 rfl)) (mvT hZ (tw hw 190 rfl)) (by decide) (backOf (W := 0) (rm38_43 l Z a0 hw [] u2 h0 n0 Z0 P1) hZ (tw hw 190 rfl) (tw hw 126 rfl) (by decide) (by decide)) (g := (mkF m 2 #[rv u1, iv 0, iv (Int32.ofNat u2), .unset, .unset] [(.int (Int32.ofNat u2)), (.int 0)])) rfl (by rw [hml]; rfl) (argsL := [(.int 0), (.int (Int32.ofNat u2))]) (rest := []) (lenOf pd_12 rfl) rfl (Nat.le_of_eq rfl) (hb hby d37_2) (fun _ _ => ⟨rfl, e0, (by decide : 0 + 0 ≤ _), (by decide : 0 + 0 ≤ _)⟩)
  dsimp only [Pt.U, Pt.locs, Pt.cells, Pt.slots] at X1 l1 y1 z1 st1 hQ1
  subst l1 y1 z1
  obtain ⟨rfl, N1q, e1⟩ := hQ1
  have N1 := Fr.app N0 N1q
  obtain ⟨T2, h2, e2x, X2, e2, E2, A2, Ex2, st2⟩ := newPE X1 hx hZ (tw hw 23 rfl) e1 (g := (mkF m 10 #[rv u1, iv 0, iv (Int32.ofNat u2), iv (Int32.ofNat u2), .unset] [(.int (Int32.ofNat u2))])) rfl (hb hby d37_10) rfl P2 (cap := 24) P3 (by decide) (by decide) (by decide) (ad := "[B") rfl
  obtain ⟨e1x, g2⟩ : ∃ z, z = h0.size := ⟨_, rfl⟩
  rw [← g2] at A2 st2 Ex2
  have K2 : Keep h0 h2 [] := (Keep.refl h0 []).ext E2
  have V2 : Arv Z h2 e1x e2x .byte (Int32.ofNat u2) [] (.int (0 : Int32)) := Arv.new A2 P2
  have F1_3 : Arv Z h2 u1 u3 .byte (Int32.ofNat u4) u5 (.int (0 : Int32)) := P4.ext E2
  obtain ⟨cl4, Ar4, q4, S4, N4z, H4, G4⟩ := id F1_3
  have Z2 : n0 ≤ h2.size := Nat.le_trans Z0 E2.1
  obtain ⟨_, _, ⟨T5, L5, k5x, n5⟩, -, X5, ⟨Lc5, hQ5, l5, y5, z5⟩, st5⟩ := Jvm.LawKit.callS X2 hx (y := mq15) hown (mvT hZ (tw hw 128 rfl)) (mvT hZ (tw hw 129 rfl)) (mvT hZ (tw hw 120 rfl)) (mvT hZ (tw hw 130 rfl)) (by decide) (backOf (W := 4) (rm25_44 l Z a0 hw [] u4 u2 h2 n0 Z2 P5) hZ (tw hw 130 rfl) (tw hw 120 rfl) (by decide) (by decide)) (g := (mkF m 24 #[rv u1, iv 0, iv (Int32.ofNat u2), iv (Int32.ofNat u2), rv e1x] [(.int (Int32.ofNat u2)), (.int (Int32.ofNat u4)), (.int 0), (.ref e1x), (.int 0), (.ref u1)])) rfl (by rw [hml]; rfl) (argsL := [(.int (Int32.ofNat u4)), (.int (Int32.ofNat u2))]) (rest := [(.int 0), (.ref e1x), (.int 0), (.ref u1)]) (lenOf pd_9 rfl) rfl (Nat.le_of_eq rfl) (hb hby d37_24) (fun _ _ => ⟨rfl, e2, (by decide : 1 + 0 ≤ _), (by decide : 24 + 0 ≤ _)⟩)
  dsimp only [Pt.U, Pt.locs, Pt.cells, Pt.slots] at X5 l5 y5 z5 st5 hQ5
  subst l5 y5 z5
  obtain ⟨rfl, N5q, e5⟩ := hQ5
  have N5 := Fr.app N1 N5q
  have g_b27 : n0 ≤ e1x := Nat.le_trans Z0 (Nat.le_of_eq g2.symm)
  obtain ⟨T6, h6, Lc6, X6, e6, K6c, N6, V6, st6⟩ := own_acopy X5 hx hZ hown (tw hw 131 rfl) (tw hw 134 rfl) (tw hw 132 rfl) (tw hw 133 rfl) e5 F1_3 V2 (by decide) P6 P7 (g := (mkF m 27 #[rv u1, iv 0, iv (Int32.ofNat u2), iv (Int32.ofNat u2), rv e1x] [(.int (Int32.ofNat u2)), (.int 0), (.ref e1x), (.int 0), (.ref u1)])) rfl (by rw [hml]; rfl) rfl (hb hby d37_27) (W := 0) (Nat.le_of_eq rfl) (by decide) (by decide) g_b27 N5
  have sz0_b27 : h0.size ≤ e1x := Nat.le_trans (Keep.refl h0 []).1 (Nat.le_of_eq g2.symm)
  have K6 : Keep h0 h6 [] := K2.trans K6c (allS (Or.inr sz0_b27) all0)
  have F2_7 : Exa Z h6 e1x "[B" := Ex2.keep K6c
  obtain ⟨fs, hr, hrun, hended, hW, hsame⟩ := X6.leave (v := some (.ref e1x)) (fun h => by rw [hre] at h; cases h)
  refine ⟨_, _, pre0 _ ?_, hrun, hended, _, _, rfl, ?_, ⟨_, rfl⟩, hW, hsame.mono (by decide) (by decide)⟩
  · show SF p e below s₁ (mkF m 0 #[rv u1, iv 0, iv (Int32.ofNat u2), .unset, .unset] []) _
    refine XS.iloadN X0.here hx rfl (hb hby d37_0) rfl ?_
    refine XS.iloadN X0.here hx rfl (hb hby d37_1) rfl ?_
    refine st1 _ ?_
    refine XS.iloadN X1.here hx rfl (hb hby d37_5) rfl ?_
    refine XS.iloadN X1.here hx rfl (hb hby d37_6) rfl ?_
    refine XS.isub X1.here hx rfl (hb hby d37_7) rfl ?_
    show SF p e below T1 (mkF m 8 #[rv u1, iv 0, iv (Int32.ofNat u2), .unset, .unset] [(.int ((Int32.ofNat u2) - (0 : Int32)))]) _
    rw [(show ((Int32.ofNat u2) - (0 : Int32)) = (Int32.ofNat u2) from Int32.sub_zero _)]
    refine XS.istoreN X1.here hx rfl (hb hby d37_8) rfl (l' := #[rv u1, iv 0, iv (Int32.ofNat u2), iv (Int32.ofNat u2), .unset]) rfl ?_
    refine XS.iloadN X1.here hx rfl (hb hby d37_9) rfl ?_
    refine st2 _ ?_
    refine XS.astore X2.here hx rfl (hb hby d37_12) rfl rfl (l' := #[rv u1, iv 0, iv (Int32.ofNat u2), iv (Int32.ofNat u2), rv e1x]) rfl ?_
    refine XS.aloadN X2.here hx rfl (hb hby d37_14) rfl rfl ?_
    refine XS.iloadN X2.here hx rfl (hb hby d37_15) rfl ?_
    refine XS.aload X2.here hx rfl (hb hby d37_16) rfl rfl ?_
    refine XS.iconst X2.here hx rfl (hb hby d37_18) ?_
    refine XS.aloadN X2.here hx rfl (hb hby d37_19) rfl rfl ?_
    refine X2.arraylength hx (by rw [e2]; exact Ar4.1) (State.isArrayOf_alike hZ.alike Ar4.2.1) (g := (mkF m 20 #[rv u1, iv 0, iv (Int32.ofNat u2), iv (Int32.ofNat u2), rv e1x] [(.ref u1), (.int 0), (.ref e1x), (.int 0), (.ref u1)])) rfl rfl (hb hby d37_20) _ ?_
    rw [len_of S4 N4z]
    refine XS.iloadN X2.here hx rfl (hb hby d37_21) rfl ?_
    refine XS.isub X2.here hx rfl (hb hby d37_22) rfl ?_
    show SF p e below T2 (mkF m 23 #[rv u1, iv 0, iv (Int32.ofNat u2), iv (Int32.ofNat u2), rv e1x] [(.int ((Int32.ofNat u4) - (0 : Int32))), (.int 0), (.ref e1x), (.int 0), (.ref u1)]) _
    rw [(show ((Int32.ofNat u4) - (0 : Int32)) = (Int32.ofNat u4) from Int32.sub_zero _)]
    refine XS.iloadN X2.here hx rfl (hb hby d37_23) rfl ?_
    refine st5 _ ?_
    refine st6 _ ?_
    refine XS.aload X6.here hx rfl (hb hby d37_30) rfl rfl ?_
    exact own_retR X6 hx hre rfl rfl (hb hby d37_32) hr
  · show Q37_45 Z u1 u2 u3 u4 u5 h0 n0 _ T6.heap _
    rw [e6]
    exact ⟨e1x, e2x, sz0_b27, rfl, N6, K6, V6, F2_7⟩
theorem pd_24 : parseMethodDescriptor "([BII)[B" = some ⟨[(.array .byte), .int, .int], some (.array .byte)⟩ := by decide +kernel
theorem d36_16 : D36 16 (.areturn) 1 := by decide +kernel
def Q36_46 (Z : State) (u1 : Addr) (u2 : Nat) (u3 : ClassId) (u4 : Nat) (u5 : List Value) (h0 : Heap) (n0 : Nat) (v : Option Value) (h : Heap) (L : List Loc) : Prop := ∃ e1x : Addr, ∃ e2x : ClassId, h0.size ≤ e1x ∧ v = some (.ref e1x) ∧ Fr n0 L ∧ Keep h0 h [] ∧ Arv Z h e1x e2x .byte (Int32.ofNat u2) u5 (.int (0 : Int32)) ∧ Exa Z h e1x "[B"
theorem rm36_46 (l : Launch) (Z : State) (a0 : Array Value) (hw : HW Z a0) (ws : List Jvm.Cond) (u1 : Addr) (u2 : Nat) (u3 : ClassId) (u4 : Nat) (u5 : List Value) (h0 : Heap) (n0 : Nat) (Z0 : n0 ≤ h0.size) (P1 : Arv Z h0 u1 u3 .byte (Int32.ofNat u4) u5 (.int (0 : Int32))) (P2 : ¬ ((Int32.ofNat u2) = (Int32.ofNat u4))) (P3 : ¬ ((Int32.ofNat u2) < (0 : Int32))) (P4 : ¬ (Int32.ofNat u2) < 0) (P5 : ((Int32.ofNat u2)).toNatClampNeg ≤ 24) (P6 : (Int32.ofNat u2) < (Int32.ofNat u4)) (P7 : ((0 : Int32)).toNatClampNeg = ([] : List Value).length ∧ ¬ (0 : Int32) < 0) (P8 : ¬ (Int32.ofNat u2) < 0 ∧ u5.length ≤ ((Int32.ofNat u2)).toNatClampNeg ∧ ((Int32.ofNat u2)).toNatClampNeg ≤ ((Int32.ofNat u4)).toNatClampNeg ∧ ([] : List Value).length + ((Int32.ofNat u2)).toNatClampNeg ≤ ((Int32.ofNat u2)).toNatClampNeg) :
    MF l Z mq50 (Jvm.Cond.code mq50 jdk_65_method_132_code 3 (some (.array .byte))) ws rq12 #[(.ref u1), (.int 0), (.int (Int32.ofNat u2))] h0 (Q36_46 Z u1 u2 u3 u4 u5 h0 n0) := by
  refine own_enter (plainFor_of_name pn_6) fun p e s m below meth c s₁ X0 hx hby hml hown hnm hZ e0 hre hlk => ?_
  have N0 := Fr.nil n0
  have pre0 : ∀ t, SF p e below s₁ (mkF m 0 #[rv u1, iv 0, iv (Int32.ofNat u2)] []) t → SF p e below s₁ (entryFrame m #[(.ref u1), (.int 0), (.int (Int32.ofNat u2))] 3) t := fun t k => castTop (ef_31 m u1 (0 : Int32) (Int32.ofNat u2)) k
  obtain ⟨cl1, Ar1, q1, S1, N1z, H1, G1⟩ := id P1
  obtain ⟨_, _, ⟨T2, L2, k2x, n2⟩, -, X2, ⟨Lc2, hQ2, l2, y2, z2⟩, st2⟩ := Jvm.LawKit.callS X0 hx (y := mq51) hown (mvT hZ (tw hw 185 rfl)) (mvT hZ (tw hw 186 rfl)) (mvT hZ (tw hw 126 rfl)) (mvT hZ (tw hw 187 rfl)) (by decide) (backOf (W := 0) (rm37_45 l Z a0 hw [] u1 u2 u3 u4 u5 h0 n0 Z0 P3 P4 P5 P1 P6 P7 P8) hZ (tw hw 187 rfl) (tw hw 126 rfl) (by decide) (by decide)) (g := (mkF m 13 #[rv u1, iv 0, iv (Int32.ofNat u2)] [(.int (Int32.ofNat u2)), (.int 0), (.ref u1)])) rfl (by rw [hml]; rfl) (argsL := [(.ref u1), (.int 0), (.int (Int32.ofNat u2))]) (rest := []) (lenOf pd_24 rfl) rfl (Nat.le_of_eq rfl) (hb hby d36_13) (fun _ _ => ⟨rfl, e0, (by decide : 0 + 1 ≤ _), (by decide : 0 + 24 ≤ _)⟩)
  dsimp only [Pt.U, Pt.locs, Pt.cells, Pt.slots] at X2 l2 y2 z2 st2 hQ2
  subst l2 y2 z2
  obtain ⟨e1x, e2x, bz_b28, rfl, N2q, K2c, Fq2_0, Fq2_1⟩ := hQ2
  have K2 : Keep h0 T2.heap [] := (Keep.refl h0 []).trans K2c all0
  have N2 := Fr.app N0 N2q
  have sz0_b28 : h0.size ≤ e1x := Nat.le_trans (Keep.refl h0 []).1 bz_b28
  obtain ⟨fs, hr, hrun, hended, hW, hsame⟩ := X2.leave (v := some (.ref e1x)) (fun h => by rw [hre] at h; cases h)
  refine ⟨_, _, pre0 _ ?_, hrun, hended, _, _, rfl, ?_, ⟨_, rfl⟩, hW, hsame.mono (by decide) (by decide)⟩
  · show SF p e below s₁ (mkF m 0 #[rv u1, iv 0, iv (Int32.ofNat u2)] []) _
    refine XS.iloadN X0.here hx rfl (hb hby d36_0) rfl ?_
    refine XS.ifNo X0.here hx rfl (hb hby d36_1) rfl ((if0 _ _).trans (teq (by decide : (0 : Int32) = (0 : Int32))).2) ?_
    refine XS.iloadN X0.here hx rfl (hb hby d36_4) rfl ?_
    refine XS.aloadN X0.here hx rfl (hb hby d36_5) rfl rfl ?_
    refine X0.arraylength hx (by rw [e0]; exact Ar1.1) (State.isArrayOf_alike hZ.alike Ar1.2.1) (g := (mkF m 6 #[rv u1, iv 0, iv (Int32.ofNat u2)] [(.ref u1), (.int (Int32.ofNat u2))])) rfl rfl (hb hby d36_6) _ ?_
    rw [len_of S1 N1z]
    refine XS.icmpNo X0.here hx rfl (hb hby d36_7) rfl (feq P2).1 ?_
    refine XS.aloadN X0.here hx rfl (hb hby d36_10) rfl rfl ?_
    refine XS.iloadN X0.here hx rfl (hb hby d36_11) rfl ?_
    refine XS.iloadN X0.here hx rfl (hb hby d36_12) rfl ?_
    refine st2 _ ?_
    exact own_retR X2 hx hre rfl rfl (hb hby d36_16) hr
  · show Q36_46 Z u1 u2 u3 u4 u5 h0 n0 _ T2.heap _
    exact ⟨e1x, e2x, sz0_b28, rfl, N2, K2, Fq2_0, Fq2_1⟩
def QC (Z : State) (kka : Nat) (va : List Value) (h0 : Heap) (n0 : Nat) (v : Option Value) (h : Heap) (L : List Loc) : Prop := ∃ (b : Addr) (k : ClassId), h0.size ≤ b ∧ v = some (.ref b) ∧ Fr n0 L ∧ Keep h0 h [] ∧ Arv Z h b k .byte (Int32.ofNat kka) va (.int (0 : Int32))
theorem cpr (l : Launch) (Z : State) (a0 : Array Value) (hw : HW Z a0) (ws : List Jvm.Cond) (GC : Int32) (GF : Value) (ta : Addr) (kta : ClassId) (nna kka : Nat) (va : List Value) (h0 : Heap) (n0 : Nat) (Z0 : n0 ≤ h0.size) (S : St Z GC GF) (O : Old Z n0 h0) (At : Arv Z h0 ta kta .byte (Int32.ofNat nna) va (.int (0 : Int32))) (Et : Exa Z h0 ta "[B") (hv : va.length = kka) (hk : kka ≤ nna) (hn : nna < 25) :
    MF l Z mq50 (Jvm.Cond.code mq50 jdk_65_method_132_code 3 (some (.array .byte))) ws rq12 #[(.ref ta), (.int 0), (.int (Int32.ofNat kka))] h0 (QC Z kka va h0 n0) := by
  by_cases he : kka = nna
  · refine own_mf (rm36_42 l Z a0 hw ws ta kka kta nna va h0 n0 Z0 At ((own_all2 25 25 (C := fun kka nna => (kka ≤ nna ∧ kka = nna)) (P := fun kka nna => (Int32.ofNat kka) = (Int32.ofNat nna)) (by decide +kernel) kka (by omega) nna hn ⟨hk, he⟩)) Et ((own_all2 25 25 (C := fun kka nna => (kka ≤ nna ∧ kka = nna)) (P := fun kka nna => ((Int32.ofNat nna)).toNatClampNeg ≤ 24) (by decide +kernel) kka (by omega) nna hn ⟨hk, he⟩))) fun v h L q => ?_
    obtain ⟨b1, s1, q1, q2, q3, f0, f1⟩ := q
    exact ⟨b1, kta, s1, q1, q2, q3, he ▸ f0⟩
  · refine own_mf (rm36_46 l Z a0 hw ws ta kka kta nna va h0 n0 Z0 At ((own_all2 25 25 (C := fun kka nna => (kka ≤ nna ∧ ¬ kka = nna)) (P := fun kka nna => ¬ ((Int32.ofNat kka) = (Int32.ofNat nna))) (by decide +kernel) kka (by omega) nna hn ⟨hk, he⟩)) ((own_all2 25 25 (C := fun kka nna => (kka ≤ nna ∧ ¬ kka = nna)) (P := fun kka nna => ¬ ((Int32.ofNat kka) < (0 : Int32))) (by decide +kernel) kka (by omega) nna hn ⟨hk, he⟩)) ((own_all2 25 25 (C := fun kka nna => (kka ≤ nna ∧ ¬ kka = nna)) (P := fun kka nna => ¬ (Int32.ofNat kka) < 0) (by decide +kernel) kka (by omega) nna hn ⟨hk, he⟩)) ((own_all2 25 25 (C := fun kka nna => (kka ≤ nna ∧ ¬ kka = nna)) (P := fun kka nna => ((Int32.ofNat kka)).toNatClampNeg ≤ 24) (by decide +kernel) kka (by omega) nna hn ⟨hk, he⟩)) ((own_all2 25 25 (C := fun kka nna => (kka ≤ nna ∧ ¬ kka = nna)) (P := fun kka nna => (Int32.ofNat kka) < (Int32.ofNat nna)) (by decide +kernel) kka (by omega) nna hn ⟨hk, he⟩)) ((own_all2 25 25 (C := fun kka nna => (kka ≤ nna ∧ ¬ kka = nna)) (P := fun kka nna => ((0 : Int32)).toNatClampNeg = ([] : List Value).length ∧ ¬ (0 : Int32) < 0) (by decide +kernel) kka (by omega) nna hn ⟨hk, he⟩)) (by rw [hv]; exact (own_all2 25 25 (C := fun kka nna => (kka ≤ nna ∧ ¬ kka = nna)) (P := fun kka nna => ¬ (Int32.ofNat kka) < 0 ∧ kka ≤ ((Int32.ofNat kka)).toNatClampNeg ∧ ((Int32.ofNat kka)).toNatClampNeg ≤ ((Int32.ofNat nna)).toNatClampNeg ∧ ([] : List Value).length + ((Int32.ofNat kka)).toNatClampNeg ≤ ((Int32.ofNat kka)).toNatClampNeg) (by decide +kernel) kka (by omega) nna hn ⟨hk, he⟩))) fun v h L q => ?_
    obtain ⟨b1, k3, s1, q1, q2, q3, f0, f1⟩ := q
    exact ⟨b1, k3, s1, q1, q2, q3, f0⟩
abbrev D29 (n : Nat) (i : Instr) (k : Nat) : Prop := decode jdk_67_method_42_code n = .ok (i, k)
theorem d29_0 : D29 0 (.new 18) 3 := by decide +kernel
theorem d29_3 : D29 3 (.dup) 1 := by decide +kernel
theorem d29_4 : D29 4 (.aload_n 0) 1 := by decide +kernel
theorem d29_5 : D29 5 (.invokespecial 137) 3 := by decide +kernel
abbrev D30 (n : Nat) (i : Instr) (k : Nat) : Prop := decode jdk_42_method_53_code n = .ok (i, k)
theorem d30_0 : D30 0 (.aload_n 0) 1 := by decide +kernel
theorem d30_1 : D30 1 (.aload_n 1) 1 := by decide +kernel
theorem d30_2 : D30 2 (.aconst_null) 1 := by decide +kernel
theorem d30_3 : D30 3 (.invokespecial 489) 3 := by decide +kernel
abbrev D31 (n : Nat) (i : Instr) (k : Nat) : Prop := decode jdk_42_method_150_code n = .ok (i, k)
theorem d31_0 : D31 0 (.aload_n 0) 1 := by decide +kernel
theorem d31_1 : D31 1 (.invokespecial 1) 3 := by decide +kernel
theorem d31_4 : D31 4 (.aload_n 1) 1 := by decide +kernel
theorem d31_5 : D31 5 (.invokevirtual 552) 3 := by decide +kernel
abbrev D32 (n : Nat) (i : Instr) (k : Nat) : Prop := decode jdk_68_method_64_code n = .ok (i, k)
theorem d32_0 : D32 0 (.aload_n 0) 1 := by decide +kernel
theorem d32_1 : D32 1 (.getfield 15) 3 := by decide +kernel
theorem d32_4 : D32 4 (.areturn) 1 := by decide +kernel
theorem ef_34 (m : MethodId) (x0 : Addr) : entryFrame m #[(.ref x0)] 1 = mkF m 0 #[.val (.ref x0)] [] := by first | (simp [entryFrame, mkF, argsToLocals, Value.category]; done) | rfl
def Q32_47 (Z : State) (u1 : Addr) (u2 : Addr) (h0 : Heap) (n0 : Nat) (v : Option Value) (h : Heap) (L : List Loc) : Prop := v = some (.ref u2) ∧ Fr n0 L ∧ h = h0
theorem rm32_47 (l : Launch) (Z : State) (a0 : Array Value) (hw : HW Z a0) (ws : List Jvm.Cond) (u1 : Addr) (u2 : Addr) (h0 : Heap) (n0 : Nat) (Z0 : n0 ≤ h0.size) (P1 : Fld Z h0 u1 sq2 "value" "[B" (.ref u2)) :
    MF l Z mq7 (Jvm.Cond.code mq7 jdk_68_method_64_code 1 (some (.array .byte))) ws rq0 #[(.ref u1)] h0 (Q32_47 Z u1 u2 h0 n0) := by
  refine own_enter (plainFor_of_name pn_4) fun p e s m below meth c s₁ X0 hx hby hml hown hnm hZ e0 hre hlk => ?_
  have N0 := Fr.nil n0
  have pre0 : ∀ t, SF p e below s₁ (mkF m 0 #[rv u1] []) t → SF p e below s₁ (entryFrame m #[(.ref u1)] 1) t := fun t k => castTop (ef_34 m u1) k
  obtain ⟨T1, X1, e1, st1⟩ := getF X0 hx hZ hown (host := "") (Or.inl (tw hw 62 rfl)) Via.refl e0 P1 (g := (mkF m 1 #[rv u1] [(.ref u1)])) rfl rfl (hb hby d32_1)
  obtain ⟨fs, hr, hrun, hended, hW, hsame⟩ := X1.leave (v := some (.ref u2)) (fun h => by rw [hre] at h; cases h)
  refine ⟨_, _, pre0 _ ?_, hrun, hended, _, _, rfl, ?_, ⟨_, rfl⟩, hW, hsame.mono (by decide) (by decide)⟩
  · show SF p e below s₁ (mkF m 0 #[rv u1] []) _
    refine XS.aloadN X0.here hx rfl (hb hby d32_0) rfl rfl ?_
    refine st1 _ ?_
    exact own_retR X1 hx hre rfl rfl (hb hby d32_4) hr
  · show Q32_47 Z u1 u2 h0 n0 _ T1.heap _
    rw [e1]
    exact ⟨rfl, N0, rfl⟩
theorem pd_25 : parseMethodDescriptor "()[B" = some ⟨[], some (.array .byte)⟩ := by decide +kernel
theorem d31_8 : D31 8 (.astore_n 3) 1 := by decide +kernel
theorem d31_9 : D31 9 (.aload_n 1) 1 := by decide +kernel
theorem d31_10 : D31 10 (.invokevirtual 549) 3 := by decide +kernel
abbrev D33 (n : Nat) (i : Instr) (k : Nat) : Prop := decode jdk_67_method_93_code n = .ok (i, k)
theorem d33_0 : D33 0 (.aload_n 0) 1 := by decide +kernel
theorem d33_1 : D33 1 (.invokespecial 343) 3 := by decide +kernel
abbrev D34 (n : Nat) (i : Instr) (k : Nat) : Prop := decode jdk_68_method_6_code n = .ok (i, k)
theorem d34_0 : D34 0 (.aload_n 0) 1 := by decide +kernel
theorem d34_1 : D34 1 (.getfield 79) 3 := by decide +kernel
theorem d34_4 : D34 4 (.ireturn) 1 := by decide +kernel
theorem ef_35 (m : MethodId) (x0 : Addr) : entryFrame m #[(.ref x0)] 1 = mkF m 0 #[.val (.ref x0)] [] := by first | (simp [entryFrame, mkF, argsToLocals, Value.category]; done) | rfl
def Q34_48 (Z : State) (u1 : Addr) (u2 : List Int32) (h0 : Heap) (n0 : Nat) (v : Option Value) (h : Heap) (L : List Loc) : Prop := v = some (.int (Int32.ofNat u2.length)) ∧ Fr n0 L ∧ h = h0
theorem rm34_48 (l : Launch) (Z : State) (a0 : Array Value) (hw : HW Z a0) (ws : List Jvm.Cond) (u1 : Addr) (u2 : List Int32) (h0 : Heap) (n0 : Nat) (Z0 : n0 ≤ h0.size) (P1 : Fld Z h0 u1 sq2 "count" "I" (.int (Int32.ofNat u2.length))) :
    MF l Z mq11 (Jvm.Cond.code mq11 jdk_68_method_6_code 1 (some .int)) ws rq0 #[(.ref u1)] h0 (Q34_48 Z u1 u2 h0 n0) := by
  refine own_enter (plainFor_of_name pn_4) fun p e s m below meth c s₁ X0 hx hby hml hown hnm hZ e0 hre hlk => ?_
  have N0 := Fr.nil n0
  have pre0 : ∀ t, SF p e below s₁ (mkF m 0 #[rv u1] []) t → SF p e below s₁ (entryFrame m #[(.ref u1)] 1) t := fun t k => castTop (ef_35 m u1) k
  obtain ⟨T1, X1, e1, st1⟩ := getF X0 hx hZ hown (host := "") (Or.inl (tw hw 102 rfl)) Via.refl e0 P1 (g := (mkF m 1 #[rv u1] [(.ref u1)])) rfl rfl (hb hby d34_1)
  obtain ⟨fs, hr, hrun, hended, hW, hsame⟩ := X1.leave (v := some (.int (Int32.ofNat u2.length))) (fun h => by rw [hre] at h; cases h)
  refine ⟨_, _, pre0 _ ?_, hrun, hended, _, _, rfl, ?_, ⟨_, rfl⟩, hW, hsame.mono (by decide) (by decide)⟩
  · show SF p e below s₁ (mkF m 0 #[rv u1] []) _
    refine XS.aloadN X0.here hx rfl (hb hby d34_0) rfl rfl ?_
    refine st1 _ ?_
    exact retI X1 hx hre (hb hby d34_4) hr
  · show Q34_48 Z u1 u2 h0 n0 _ T1.heap _
    rw [e1]
    exact ⟨rfl, N0, rfl⟩
theorem d33_4 : D33 4 (.ireturn) 1 := by decide +kernel
theorem ef_36 (m : MethodId) (x0 : Addr) : entryFrame m #[(.ref x0)] 1 = mkF m 0 #[.val (.ref x0)] [] := by first | (simp [entryFrame, mkF, argsToLocals, Value.category]; done) | rfl
def Q33_49 (Z : State) (u1 : Addr) (u2 : List Int32) (h0 : Heap) (n0 : Nat) (v : Option Value) (h : Heap) (L : List Loc) : Prop := v = some (.int (Int32.ofNat u2.length)) ∧ Fr n0 L ∧ h = h0
theorem rm33_49 (l : Launch) (Z : State) (a0 : Array Value) (hw : HW Z a0) (ws : List Jvm.Cond) (u1 : Addr) (u2 : List Int32) (h0 : Heap) (n0 : Nat) (Z0 : n0 ≤ h0.size) (P1 : Fld Z h0 u1 sq2 "count" "I" (.int (Int32.ofNat u2.length))) (P2 : Exa Z h0 u1 sq4) :
    MF l Z mq30 (Jvm.Cond.code mq30 jdk_67_method_93_code 1 (some .int)) ws rq2 #[(.ref u1)] h0 (Q33_49 Z u1 u2 h0 n0) := by
  refine own_enter (plainFor_of_name pn_7) fun p e s m below meth c s₁ X0 hx hby hml hown hnm hZ e0 hre hlk => ?_
  have N0 := Fr.nil n0
  have pre0 : ∀ t, SF p e below s₁ (mkF m 0 #[rv u1] []) t → SF p e below s₁ (entryFrame m #[(.ref u1)] 1) t := fun t k => castTop (ef_36 m u1) k
  obtain ⟨_, _, ⟨T1, L1, k1x, n1⟩, -, X1, ⟨Lc1, hQ1, l1, y1, z1⟩, st1⟩ := superBack X0 hx hZ (y := mq11) hown (tw hw 175 rfl) (own_same (y := mq11) (n' := "ensureCapacityInternal") (d' := "(I)V") (tw hw 107 rfl) (tw hw 171 rfl) (by decide)) (tw hw 171 rfl) (tw hw 98 rfl) (by decide) (backOf (W := 0) (rm34_48 l Z a0 hw [] u1 u2 h0 n0 Z0 P1) hZ (tw hw 176 rfl) (tw hw 58 rfl) (by decide) (by decide)) e0 (Ins.self P2) (g := (mkF m 1 #[rv u1] [(.ref u1)])) rfl (by rw [hml]; rfl) (tw hw 176 rfl) (argsL := []) (rest := []) (lenOf pd_19 rfl) rfl (Nat.le_of_eq rfl) (hb hby d33_1) (fun _ _ => ⟨rfl, e0, (by decide : 0 + 0 ≤ _), (by decide : 0 + 0 ≤ _)⟩)
  dsimp only [Pt.U, Pt.locs, Pt.cells, Pt.slots] at X1 l1 y1 z1 st1 hQ1
  subst l1 y1 z1
  obtain ⟨rfl, N1q, e1⟩ := hQ1
  have N1 := Fr.app N0 N1q
  obtain ⟨fs, hr, hrun, hended, hW, hsame⟩ := X1.leave (v := some (.int (Int32.ofNat u2.length))) (fun h => by rw [hre] at h; cases h)
  refine ⟨_, _, pre0 _ ?_, hrun, hended, _, _, rfl, ?_, ⟨_, rfl⟩, hW, hsame.mono (by decide) (by decide)⟩
  · show SF p e below s₁ (mkF m 0 #[rv u1] []) _
    refine XS.aloadN X0.here hx rfl (hb hby d33_0) rfl rfl ?_
    refine st1.trans ?_
    exact retI X1 hx hre (hb hby d33_4) hr
  · show Q33_49 Z u1 u2 h0 n0 _ T1.heap _
    rw [e1]
    exact ⟨rfl, N1, rfl⟩
theorem d31_13 : D31 13 (.istore 4) 2 := by decide +kernel
theorem d31_15 : D31 15 (.aload_n 1) 1 := by decide +kernel
theorem d31_16 : D31 16 (.invokevirtual 1047) 3 := by decide +kernel
theorem d31_19 : D31 19 (.ifCond .eq 22) 3 := by decide +kernel
theorem d31_22 : D31 22 (.aload_n 0) 1 := by decide +kernel
theorem d31_23 : D31 23 (.iconst 0) 1 := by decide +kernel
theorem d31_24 : D31 24 (.putfield 15) 3 := by decide +kernel
theorem d31_27 : D31 27 (.aload_n 0) 1 := by decide +kernel
theorem d31_28 : D31 28 (.aload_n 3) 1 := by decide +kernel
theorem d31_29 : D31 29 (.iconst 0) 1 := by decide +kernel
theorem d31_30 : D31 30 (.iload 4) 2 := by decide +kernel
theorem d31_32 : D31 32 (.invokestatic 54) 3 := by decide +kernel
theorem d31_35 : D31 35 (.putfield 9) 3 := by decide +kernel
theorem d31_38 : D31 38 (.goto 59) 3 := by decide +kernel
theorem d31_97 : D31 97 (.return_) 1 := by decide +kernel
theorem ef_37 (m : MethodId) (x0 : Addr) (x1 : Addr) : entryFrame m #[(.ref x0), (.ref x1), .null] 5 = mkF m 0 #[.val (.ref x0), .val (.ref x1), .val .null, .unset, .unset] [] := by first | (simp [entryFrame, mkF, argsToLocals, Value.category]; done) | rfl
def Q31_50 (Z : State) (u1 : Addr) (u2 : Addr) (u3 : Addr) (u4 : List Int32) (GC : Int32) (u5 : ClassId) (u6 : Nat) (GF : Value) (h0 : Heap) (n0 : Nat) (v : Option Value) (h : Heap) (L : List Loc) : Prop := ∃ e1x : Addr, ∃ e2x : ClassId, h0.size ≤ e1x ∧ v = none ∧ Fr n0 L ∧ Keep h0 h [u1] ∧ Exa Z h u1 sq3 ∧ Fld Z h u1 sq3 "coder" "B" (.int 0) ∧ Fld Z h u1 sq3 "value" "[B" (.ref e1x) ∧ Arv Z h e1x e2x .byte (Int32.ofNat u4.length) (own_lo u4) (.int (0 : Int32))
theorem rm31_50 (l : Launch) (Z : State) (a0 : Array Value) (hw : HW Z a0) (ws : List Jvm.Cond) (u1 : Addr) (u2 : Addr) (u3 : Addr) (u4 : List Int32) (GC : Int32) (u5 : ClassId) (u6 : Nat) (GF : Value) (h0 : Heap) (n0 : Nat) (Z0 : n0 ≤ h0.size) (P1 : Exa Z h0 u2 sq4) (P2 : Fld Z h0 u2 sq2 "value" "[B" (.ref u3)) (P3 : Fld Z h0 u2 sq2 "count" "I" (.int (Int32.ofNat u4.length))) (Sg0 : Sta Z Z.heap sq3 "COMPACT_STRINGS" "Z" (.int GC)) (P5 : Old Z n0 h0) (nzGC : ¬ (GC = (0 : Int32))) (P7 : Fld Z h0 u2 sq2 "coder" "B" (.int 0)) (P8 : Exa Z h0 u1 sq3) (P9 : Fld Z h0 u1 sq3 "coder" "B" (.int 0)) (P10 : Fld Z h0 u1 sq3 "value" "[B" .null) (P11 : n0 ≤ u1) (P12 : Arv Z h0 u3 u5 .byte (Int32.ofNat u6) (own_lo u4) (.int (0 : Int32))) (P13 : u3 ≠ u1) (P14 : Exa Z h0 u3 "[B") (P15 : St Z GC GF) (P16 : (own_lo u4).length = u4.length) (P17 : u4.length ≤ u6) (P18 : u6 < 25) (P19 : u1 < h0.size) :
    MF l Z mq16 (Jvm.Cond.code mq16 jdk_42_method_150_code 5 none) ws rq15 #[(.ref u1), (.ref u2), .null] h0 (Q31_50 Z u1 u2 u3 u4 GC u5 u6 GF h0 n0) := by
  refine own_enter (plainFor_of_name pn_2) fun p e s m below meth c s₁ X0 hx hby hml hown hnm hZ e0 hre hlk => ?_
  have N0 := Fr.nil n0
  have pre0 : ∀ t, SF p e below s₁ (mkF m 0 #[rv u1, rv u2, .val .null, .unset, .unset] []) t → SF p e below s₁ (entryFrame m #[(.ref u1), (.ref u2), .null] 5) t := fun t k => castTop (ef_37 m u1 u2) k
  obtain ⟨T1, X1, e1, st1⟩ := initO X0 hx hZ hown (tw hw 15 rfl) (tw hw 16 rfl) (tw hw 17 rfl) e0 (g := (mkF m 1 #[rv u1, rv u2, .val .null, .unset, .unset] [(.ref u1)])) rfl (by rw [hml]; rfl) rfl (hb hby d31_1) (by decide) (W := 0) (Nat.le_of_eq rfl) (by decide)
  obtain ⟨cq2, kq2, q2a, q2b, q2c⟩ := isOf hZ e1 P1
  obtain ⟨_, _, ⟨T2, L2, k2x, n2⟩, -, X2, ⟨Lc2, hQ2, l2, y2, z2⟩, st2⟩ := X1.virtualBack hx (y := mq7) (z := mq7) hown (mvT hZ (tw hw 164 rfl)) (mvT hZ (tw hw 165 rfl)) (notFace_of_selects (args := #[]) (mvT hZ (tw hw 167 rfl))) (mvT hZ (tw hw 167 rfl)) (mvT hZ (tw hw 166 rfl)) (by decide) (backOf (W := 0) (rm32_47 l Z a0 hw [] u2 u3 h0 n0 Z0 P2) hZ (tw hw 168 rfl) (tw hw 58 rfl) (by decide) (by decide)) q2a q2c (g := (mkF m 5 #[rv u1, rv u2, .val .null, .unset, .unset] [(.ref u2)])) rfl (by rw [hml]; rfl) (Steps.refl _) (argsL := []) (rest := []) (lenOf pd_25 rfl) rfl (Nat.le_of_eq rfl) (hb hby d31_5) (fun _ _ => ⟨rfl, e1, (by decide : 0 + 0 ≤ _), (by decide : 0 + 0 ≤ _)⟩)
  dsimp only [Pt.U, Pt.locs, Pt.cells, Pt.slots] at X2 l2 y2 z2 st2 hQ2
  subst l2 y2 z2
  obtain ⟨rfl, N2q, e2⟩ := hQ2
  have N2 := Fr.app N0 N2q
  obtain ⟨cq3, kq3, q3a, q3b, q3c⟩ := isOf hZ e2 P1
  obtain ⟨_, _, ⟨T3, L3, k3x, n3⟩, -, X3, ⟨Lc3, hQ3, l3, y3, z3⟩, st3⟩ := X2.virtualBack hx (y := mq11) (z := mq30) hown (mvT hZ (tw hw 169 rfl)) (mvT hZ (tw hw 170 rfl)) (own_nf (args := #[]) (n' := "ensureCapacityInternal") (d' := "(I)V") (mvT hZ (tw hw 107 rfl))) (mvT hZ (tw hw 172 rfl)) (mvT hZ (tw hw 173 rfl)) (by decide) (backOf (W := 0) (rm33_49 l Z a0 hw [] u2 u4 h0 n0 Z0 P3 P1) hZ (tw hw 174 rfl) (tw hw 40 rfl) (by decide) (by decide)) q3a q3c (g := (mkF m 10 #[rv u1, rv u2, .val .null, rv u3, .unset] [(.ref u2)])) rfl (by rw [hml]; rfl) (Steps.refl _) (argsL := []) (rest := []) (lenOf pd_19 rfl) rfl (Nat.le_of_eq rfl) (hb hby d31_10) (fun _ _ => ⟨rfl, e2, (by decide : 0 + 0 ≤ _), (by decide : 0 + 0 ≤ _)⟩)
  dsimp only [Pt.U, Pt.locs, Pt.cells, Pt.slots] at X3 l3 y3 z3 st3 hQ3
  subst l3 y3 z3
  obtain ⟨rfl, N3q, e3⟩ := hQ3
  have N3 := Fr.app N2 N3q
  obtain ⟨cq4, kq4, q4a, q4b, q4c⟩ := isOf hZ e3 P1
  obtain ⟨_, _, ⟨T4, L4, k4x, n4⟩, -, X4, ⟨Lc4, hQ4, l4, y4, z4⟩, st4⟩ := X3.virtualBack hx (y := mq10) (z := mq10) hown (mvT hZ (tw hw 177 rfl)) (mvT hZ (tw hw 178 rfl)) (notFace_of_selects (args := #[]) (mvT hZ (tw hw 180 rfl))) (mvT hZ (tw hw 180 rfl)) (mvT hZ (tw hw 179 rfl)) (by decide) (backOf (W := 0) (rm35_7 l Z a0 hw [] u2 GC h0 n0 Z0 Sg0 P5 nzGC P7) hZ (tw hw 181 rfl) (tw hw 58 rfl) (by decide) (by decide)) q4a q4c (g := (mkF m 16 #[rv u1, rv u2, .val .null, rv u3, iv (Int32.ofNat u4.length)] [(.ref u2)])) rfl (by rw [hml]; rfl) (Steps.refl _) (argsL := []) (rest := []) (lenOf pd_6 rfl) rfl (Nat.le_of_eq rfl) (hb hby d31_16) (fun _ _ => ⟨rfl, e3, (by decide : 0 + 0 ≤ _), (by decide : 0 + 0 ≤ _)⟩)
  dsimp only [Pt.U, Pt.locs, Pt.cells, Pt.slots] at X4 l4 y4 z4 st4 hQ4
  subst l4 y4 z4
  obtain ⟨rfl, N4q, e4⟩ := hQ4
  have N4 := Fr.app N3 N4q
  obtain ⟨T5, h5, X5, e5, W5, st5⟩ := putFN X4 hx hZ hown (tw hw 30 rfl) Via.refl e4 P9 P8 (Or.inr ⟨(tw hw 31 rfl), rfl, hnm⟩) (tw hw 5 rfl) (ty := .byte) (v' := (.int 0)) (by decide) (by decide) (by decide) (g := (mkF m 24 #[rv u1, rv u2, .val .null, rv u3, iv (Int32.ofNat u4.length)] [(.int 0), (.ref u1)])) rfl rfl (hb hby d31_24)
  have K5 : Keep h0 h5 [u1] := (Keep.refl h0 [u1]).wr W5 (Or.inl (List.mem_of_getElem? (i := 0) rfl))
  have N5 := Fr.snoc X5 N4 P11
  have Fw5 : Fld Z h5 u1 sq3 "coder" "B" (.int 0) := P9.same W5
  have F1_6 : Arv Z h5 u3 u5 .byte (Int32.ofNat u6) (own_lo u4) (.int (0 : Int32)) := P12.other W5 P13
  have F1_7 : Exa Z h5 u3 "[B" := P14.wr W5
  have O5 : Old Z n0 h5 := P5.wr W5 P11
  have Z5 : n0 ≤ h5.size := Nat.le_trans Z0 (Keep.of_wr W5).1
  obtain ⟨_, _, ⟨T8, L8, k8x, n8⟩, -, X8, ⟨Lc8, hQ8, l8, y8, z8⟩, st8⟩ := Jvm.LawKit.callS X5 hx (y := mq50) hown (mvT hZ (tw hw 182 rfl)) (mvT hZ (tw hw 183 rfl)) (mvT hZ (tw hw 126 rfl)) (mvT hZ (tw hw 184 rfl)) (by decide) (backOf (W := 1) (cpr l Z a0 hw [] GC GF u3 u5 u6 u4.length (own_lo u4) h5 n0 Z5 P15 O5 F1_6 F1_7 P16 P17 P18) hZ (tw hw 184 rfl) (tw hw 126 rfl) (by decide) (by decide)) (g := (mkF m 32 #[rv u1, rv u2, .val .null, rv u3, iv (Int32.ofNat u4.length)] [(.int (Int32.ofNat u4.length)), (.int 0), (.ref u3), (.ref u1)])) rfl (by rw [hml]; rfl) (argsL := [(.ref u3), (.int 0), (.int (Int32.ofNat u4.length))]) (rest := [(.ref u1)]) (lenOf pd_24 rfl) rfl (Nat.le_of_eq rfl) (hb hby d31_32) (fun _ _ => ⟨rfl, e5, (by decide : 0 + 1 ≤ _), (by decide : 0 + 24 ≤ _)⟩)
  dsimp only [Pt.U, Pt.locs, Pt.cells, Pt.slots] at X8 l8 y8 z8 st8 hQ8
  subst l8 y8 z8
  obtain ⟨e1x, e2x, bz_b31, rfl, N8q, K8c, Fq8⟩ := hQ8
  have K8 : Keep h0 T8.heap [u1] := K5.trans K8c all0
  have N8 := Fr.app N5 N8q
  have F1_9 : Exa Z h5 u1 sq3 := P8.wr W5
  have F2_10 : Exa Z T8.heap u1 sq3 := F1_9.keep K8c
  have F1_11 : Fld Z h5 u1 sq3 "value" "[B" .null := P10.other W5 (Or.inr (slot_ne (Or.inr (tw hw 33 rfl)) (Or.inr (tw hw 31 rfl)) (by decide) (t := (.array .byte)) (t' := .byte) (by decide) (by decide)))
  have F2_12 : Fld Z T8.heap u1 sq3 "value" "[B" .null := F1_11.keep K8c nin0
  have F2_13 : Fld Z T8.heap u1 sq3 "coder" "B" (.int 0) := Fw5.keep K8c nin0
  obtain ⟨T14, h14, X14, e14, W14, st14⟩ := putF X8 hx hZ hown (host := "") (Or.inl (tw hw 32 rfl)) Via.refl rfl F2_12 F2_10 (Or.inr ⟨(tw hw 33 rfl), rfl, hnm⟩) (tw hw 5 rfl) (ty := (.array .byte)) (by decide) rfl rfl (g := (mkF m 35 #[rv u1, rv u2, .val .null, rv u3, iv (Int32.ofNat u4.length)] [(.ref e1x), (.ref u1)])) rfl rfl (hb hby d31_35)
  have K14 : Keep h0 h14 [u1] := K8.wr W14 (Or.inl (List.mem_of_getElem? (i := 0) rfl))
  have N14 := Fr.snoc X14 N8 P11
  have Fw14 : Fld Z h14 u1 sq3 "value" "[B" (.ref e1x) := F2_12.same W14
  have F3_15 : Exa Z h14 u1 sq3 := F2_10.wr W14
  have F3_16 : Fld Z h14 u1 sq3 "coder" "B" (.int 0) := F2_13.other W14 (Or.inr (slot_ne (Or.inr (tw hw 31 rfl)) (Or.inr (tw hw 33 rfl)) (by decide) (t := .byte) (t' := (.array .byte)) (by decide) (by decide)))
  have lt_b30_1 : u1 < h5.size := Nat.lt_of_lt_of_le P19 (Keep.of_wr W5).1
  have F3_17 : Arv Z h14 e1x e2x .byte (Int32.ofNat u4.length) (own_lo u4) (.int (0 : Int32)) := Fq8.other W14 (Ne.symm (Nat.ne_of_lt (Nat.lt_of_lt_of_le lt_b30_1 bz_b31)))
  have sz0_b31 : h0.size ≤ e1x := Nat.le_trans K5.1 bz_b31
  obtain ⟨fs, hr, hrun, hended, hW, hsame⟩ := X14.leave (v := none) (fun _ => rfl)
  refine ⟨_, _, pre0 _ ?_, hrun, hended, _, _, rfl, ?_, ⟨_, rfl⟩, hW, hsame.mono (by decide) (by decide)⟩
  · show SF p e below s₁ (mkF m 0 #[rv u1, rv u2, .val .null, .unset, .unset] []) _
    refine XS.aloadN X0.here hx rfl (hb hby d31_0) rfl rfl ?_
    refine st1 _ ?_
    refine XS.aloadN X1.here hx rfl (hb hby d31_4) rfl rfl ?_
    refine st2.trans ?_
    refine XS.astoreN X2.here hx rfl (hb hby d31_8) rfl rfl (l' := #[rv u1, rv u2, .val .null, rv u3, .unset]) rfl ?_
    refine XS.aloadN X2.here hx rfl (hb hby d31_9) rfl rfl ?_
    refine st3.trans ?_
    refine XS.istore X3.here hx rfl (hb hby d31_13) rfl (l' := #[rv u1, rv u2, .val .null, rv u3, iv (Int32.ofNat u4.length)]) rfl ?_
    refine XS.aloadN X3.here hx rfl (hb hby d31_15) rfl rfl ?_
    refine st4.trans ?_
    refine XS.ifNo X4.here hx rfl (hb hby d31_19) rfl ((if0 _ _).trans (feq (by decide : ¬ ((1 : Int32) = (0 : Int32)))).1) ?_
    refine XS.aloadN X4.here hx rfl (hb hby d31_22) rfl rfl ?_
    refine XS.iconst X4.here hx rfl (hb hby d31_23) ?_
    refine st5 _ ?_
    refine XS.aloadN X5.here hx rfl (hb hby d31_27) rfl rfl ?_
    refine XS.aloadN X5.here hx rfl (hb hby d31_28) rfl rfl ?_
    refine XS.iconst X5.here hx rfl (hb hby d31_29) ?_
    refine XS.iload X5.here hx rfl (hb hby d31_30) rfl ?_
    refine st8 _ ?_
    refine st14 _ ?_
    refine XS.goto X14.here hx rfl (pc0 := 38) (pc' := 97) rfl (hb hby d31_38) (by decide) (by decide) ?_
    exact X14.returnOut hx hre (hb hby d31_97) hr
  · show Q31_50 Z u1 u2 u3 u4 GC u5 u6 GF h0 n0 _ T14.heap _
    rw [e14]
    exact ⟨e1x, e2x, sz0_b31, rfl, N14, K14, F3_15, F3_16, Fw14, F3_17⟩
theorem pd_26 : parseMethodDescriptor "(Ljava/lang/AbstractStringBuilder;Ljava/lang/Void;)V" = some ⟨[(.object sq2), (.object "java/lang/Void")], none⟩ := by decide +kernel
theorem d30_6 : D30 6 (.return_) 1 := by decide +kernel
theorem ef_38 (m : MethodId) (x0 : Addr) (x1 : Addr) : entryFrame m #[(.ref x0), (.ref x1)] 2 = mkF m 0 #[.val (.ref x0), .val (.ref x1)] [] := by first | (simp [entryFrame, mkF, argsToLocals, Value.category]; done) | rfl
def Q30_51 (Z : State) (u1 : Addr) (u2 : Addr) (u3 : Addr) (u4 : List Int32) (GC : Int32) (u5 : ClassId) (u6 : Nat) (GF : Value) (h0 : Heap) (n0 : Nat) (v : Option Value) (h : Heap) (L : List Loc) : Prop := ∃ e1x : Addr, ∃ e2x : ClassId, h0.size ≤ e1x ∧ v = none ∧ Fr n0 L ∧ Keep h0 h [u1] ∧ Exa Z h u1 sq3 ∧ Fld Z h u1 sq3 "coder" "B" (.int 0) ∧ Fld Z h u1 sq3 "value" "[B" (.ref e1x) ∧ Arv Z h e1x e2x .byte (Int32.ofNat u4.length) (own_lo u4) (.int (0 : Int32))
theorem rm30_51 (l : Launch) (Z : State) (a0 : Array Value) (hw : HW Z a0) (ws : List Jvm.Cond) (u1 : Addr) (u2 : Addr) (u3 : Addr) (u4 : List Int32) (GC : Int32) (u5 : ClassId) (u6 : Nat) (GF : Value) (h0 : Heap) (n0 : Nat) (Z0 : n0 ≤ h0.size) (P1 : Exa Z h0 u2 sq4) (P2 : Fld Z h0 u2 sq2 "value" "[B" (.ref u3)) (P3 : Fld Z h0 u2 sq2 "count" "I" (.int (Int32.ofNat u4.length))) (Sg0 : Sta Z Z.heap sq3 "COMPACT_STRINGS" "Z" (.int GC)) (P5 : Old Z n0 h0) (nzGC : ¬ (GC = (0 : Int32))) (P7 : Fld Z h0 u2 sq2 "coder" "B" (.int 0)) (P8 : Exa Z h0 u1 sq3) (P9 : Fld Z h0 u1 sq3 "coder" "B" (.int 0)) (P10 : Fld Z h0 u1 sq3 "value" "[B" .null) (P11 : n0 ≤ u1) (P12 : Arv Z h0 u3 u5 .byte (Int32.ofNat u6) (own_lo u4) (.int (0 : Int32))) (P13 : u3 ≠ u1) (P14 : Exa Z h0 u3 "[B") (P15 : St Z GC GF) (P16 : (own_lo u4).length = u4.length) (P17 : u4.length ≤ u6) (P18 : u6 < 25) (P19 : u1 < h0.size) :
    MF l Z mq17 (Jvm.Cond.code mq17 jdk_42_method_53_code 2 none) ws rq19 #[(.ref u1), (.ref u2)] h0 (Q30_51 Z u1 u2 u3 u4 GC u5 u6 GF h0 n0) := by
  refine own_enter (plainFor_of_name pn_2) fun p e s m below meth c s₁ X0 hx hby hml hown hnm hZ e0 hre hlk => ?_
  have N0 := Fr.nil n0
  have pre0 : ∀ t, SF p e below s₁ (mkF m 0 #[rv u1, rv u2] []) t → SF p e below s₁ (entryFrame m #[(.ref u1), (.ref u2)] 2) t := fun t k => castTop (ef_38 m u1 u2) k
  obtain ⟨_, _, ⟨T1, L1, k1x, n1⟩, -, X1, ⟨Lc1, hQ1, l1, y1, z1⟩, st1⟩ := X0.specialBack hx (y := mq16) rfl hown (mvT hZ (tw hw 161 rfl)) (mvT hZ (tw hw 162 rfl)) (mvT hZ (tw hw 163 rfl)) (by decide) (backOf (W := 0) (rm31_50 l Z a0 hw [] u1 u2 u3 u4 GC u5 u6 GF h0 n0 Z0 P1 P2 P3 Sg0 P5 nzGC P7 P8 P9 P10 P11 P12 P13 P14 P15 P16 P17 P18 P19) hZ (tw hw 163 rfl) (tw hw 6 rfl) (by decide) (by decide)) (g := (mkF m 3 #[rv u1, rv u2] [.null, (.ref u2), (.ref u1)])) rfl (by rw [hml]; rfl) (Steps.refl _) (a := u1) (argsL := [(.ref u2), .null]) (rest := []) (lenOf pd_26 rfl) rfl (Nat.le_of_eq rfl) (hb hby d30_3) (fun _ _ => ⟨rfl, e0, (by decide : 0 + 1 ≤ _), (by decide : 0 + 24 ≤ _)⟩)
  dsimp only [Pt.U, Pt.locs, Pt.cells, Pt.slots] at X1 l1 y1 z1 st1 hQ1
  subst l1 y1 z1
  obtain ⟨e1x, e2x, bz_b33, rfl, N1q, K1c, Fq1_0, Fq1_1, Fq1_2, Fq1_3⟩ := hQ1
  have K1 : Keep h0 T1.heap [u1] := (Keep.refl h0 [u1]).trans K1c (allS (Or.inl (List.mem_of_getElem? (i := 0) rfl)) all0)
  have N1 := Fr.app N0 N1q
  have sz0_b33 : h0.size ≤ e1x := Nat.le_trans (Keep.refl h0 [u1]).1 bz_b33
  obtain ⟨fs, hr, hrun, hended, hW, hsame⟩ := X1.leave (v := none) (fun _ => rfl)
  refine ⟨_, _, pre0 _ ?_, hrun, hended, _, _, rfl, ?_, ⟨_, rfl⟩, hW, hsame.mono (by decide) (by decide)⟩
  · show SF p e below s₁ (mkF m 0 #[rv u1, rv u2] []) _
    refine XS.aloadN X0.here hx rfl (hb hby d30_0) rfl rfl ?_
    refine XS.aloadN X0.here hx rfl (hb hby d30_1) rfl rfl ?_
    refine XS.aconstNull X0.here hx rfl (hb hby d30_2) ?_
    refine st1.trans ?_
    exact X1.returnOut hx hre (hb hby d30_6) hr
  · show Q30_51 Z u1 u2 u3 u4 GC u5 u6 GF h0 n0 _ T1.heap _
    exact ⟨e1x, e2x, sz0_b33, rfl, N1, K1, Fq1_0, Fq1_1, Fq1_2, Fq1_3⟩
theorem pd_27 : parseMethodDescriptor "(Ljava/lang/StringBuilder;)V" = some ⟨[(.object sq4)], none⟩ := by decide +kernel
theorem d29_8 : D29 8 (.areturn) 1 := by decide +kernel
theorem ef_39 (m : MethodId) (x0 : Addr) : entryFrame m #[(.ref x0)] 1 = mkF m 0 #[.val (.ref x0)] [] := by first | (simp [entryFrame, mkF, argsToLocals, Value.category]; done) | rfl
def Q29_52 (Z : State) (u1 : Addr) (u2 : Addr) (u3 : List Int32) (GC : Int32) (u4 : ClassId) (u5 : Nat) (GF : Value) (h0 : Heap) (n0 : Nat) (v : Option Value) (h : Heap) (L : List Loc) : Prop := ∃ e1x : Addr, ∃ e2x : Addr, ∃ e3x : ClassId, h0.size ≤ e1x ∧ h0.size ≤ e2x ∧ e1x ≠ e2x ∧ v = some (.ref e1x) ∧ Fr n0 L ∧ Keep h0 h [] ∧ Exa Z h e1x sq3 ∧ Fld Z h e1x sq3 "coder" "B" (.int 0) ∧ Fld Z h e1x sq3 "value" "[B" (.ref e2x) ∧ Arv Z h e2x e3x .byte (Int32.ofNat u3.length) (own_lo u3) (.int (0 : Int32))
theorem rm29_52 (l : Launch) (Z : State) (a0 : Array Value) (hw : HW Z a0) (ws : List Jvm.Cond) (u1 : Addr) (u2 : Addr) (u3 : List Int32) (GC : Int32) (u4 : ClassId) (u5 : Nat) (GF : Value) (h0 : Heap) (n0 : Nat) (Z0 : n0 ≤ h0.size) (P1 : Exa Z h0 u1 sq4) (P2 : Fld Z h0 u1 sq2 "value" "[B" (.ref u2)) (P3 : Fld Z h0 u1 sq2 "count" "I" (.int (Int32.ofNat u3.length))) (Sg0 : Sta Z Z.heap sq3 "COMPACT_STRINGS" "Z" (.int GC)) (P5 : Old Z n0 h0) (nzGC : ¬ (GC = (0 : Int32))) (P7 : Fld Z h0 u1 sq2 "coder" "B" (.int 0)) (P8 : Arv Z h0 u2 u4 .byte (Int32.ofNat u5) (own_lo u3) (.int (0 : Int32))) (P9 : u2 < h0.size) (P10 : Exa Z h0 u2 "[B") (P11 : St Z GC GF) (P12 : (own_lo u3).length = u3.length) (P13 : u3.length ≤ u5) (P14 : u5 < 25) :
    MF l Z mq31 (Jvm.Cond.code mq31 jdk_67_method_42_code 1 (some (.object sq3))) ws rq22 #[(.ref u1)] h0 (Q29_52 Z u1 u2 u3 GC u4 u5 GF h0 n0) := by
  refine own_enter (plainFor_of_name pn_7) fun p e s m below meth c s₁ X0 hx hby hml hown hnm hZ e0 hre hlk => ?_
  have N0 := Fr.nil n0
  have pre0 : ∀ t, SF p e below s₁ (mkF m 0 #[rv u1] []) t → SF p e below s₁ (entryFrame m #[(.ref u1)] 1) t := fun t k => castTop (ef_39 m u1) k
  obtain ⟨T1, h1, X1, e1, E1, A1, D1, -, st1⟩ := newO X0 hx hZ hown (tw hw 157 rfl) (tw hw 5 rfl) (tw hw 6 rfl) e0 (g := (mkF m 0 #[rv u1] [])) rfl (hb hby d29_0) (by decide) (by decide)
  obtain ⟨e1x, g1⟩ : ∃ z, z = h0.size := ⟨_, rfl⟩
  rw [← g1] at A1 D1 st1
  have K1 : Keep h0 h1 [] := (Keep.refl h0 []).ext E1
  have Fn2 : Fld Z h1 e1x sq3 "coder" "B" (.int 0) := D1 (Or.inr (tw hw 31 rfl)) (ty := .byte) (by decide)
  have Fn3 : Fld Z h1 e1x sq3 "value" "[B" .null := D1 (Or.inr (tw hw 33 rfl)) (ty := (.array .byte)) (by decide)
  have F1_4 : Exa Z h1 u1 sq4 := P1.ext E1
  have F1_5 : Fld Z h1 u1 sq2 "value" "[B" (.ref u2) := P2.ext E1
  have F1_6 : Fld Z h1 u1 sq2 "count" "I" (.int (Int32.ofNat u3.length)) := P3.ext E1
  have O1 : Old Z n0 h1 := P5.ext E1
  have F1_7 : Fld Z h1 u1 sq2 "coder" "B" (.int 0) := P7.ext E1
  have g_b30 : n0 ≤ e1x := Nat.le_trans Z0 (Nat.le_of_eq g1.symm)
  have F1_8 : Arv Z h1 u2 u4 .byte (Int32.ofNat u5) (own_lo u3) (.int (0 : Int32)) := P8.ext E1
  have F1_9 : Exa Z h1 u2 "[B" := P10.ext E1
  have Z1 : n0 ≤ h1.size := Nat.le_trans Z0 E1.1
  obtain ⟨_, _, ⟨T10, L10, k10x, n10⟩, -, X10, ⟨Lc10, hQ10, l10, y10, z10⟩, st10⟩ := X1.specialBack hx (y := mq17) rfl hown (mvT hZ (tw hw 158 rfl)) (mvT hZ (tw hw 159 rfl)) (mvT hZ (tw hw 160 rfl)) (by decide) (backOf (W := 1) (rm30_51 l Z a0 hw [] e1x u1 u2 u3 GC u4 u5 GF h1 n0 Z1 F1_4 F1_5 F1_6 Sg0 O1 nzGC F1_7 A1 Fn2 Fn3 g_b30 F1_8 (Nat.ne_of_lt (Nat.lt_of_lt_of_le P9 (Nat.le_of_eq g1.symm))) F1_9 P11 P12 P13 P14 A1.lt) hZ (tw hw 160 rfl) (tw hw 6 rfl) (by decide) (by decide)) (g := (mkF m 5 #[rv u1] [(.ref u1), (.ref e1x), (.ref e1x)])) rfl (by rw [hml]; rfl) (Steps.refl _) (a := e1x) (argsL := [(.ref u1)]) (rest := [(.ref e1x)]) (lenOf pd_27 rfl) rfl (Nat.le_of_eq rfl) (hb hby d29_5) (fun _ _ => ⟨rfl, e1, (by decide : 1 + 1 ≤ _), (by decide : 4 + 24 ≤ _)⟩)
  dsimp only [Pt.U, Pt.locs, Pt.cells, Pt.slots] at X10 l10 y10 z10 st10 hQ10
  subst l10 y10 z10
  obtain ⟨e2x, e3x, bz_b35, rfl, N10q, K10c, Fq10_0, Fq10_1, Fq10_2, Fq10_3⟩ := hQ10
  have sz0_b30 : h0.size ≤ e1x := Nat.le_trans (Keep.refl h0 []).1 (Nat.le_of_eq g1.symm)
  have K10 : Keep h0 T10.heap [] := K1.trans K10c (allS (Or.inr sz0_b30) all0)
  have N10 := Fr.app N0 N10q
  have sz0_b35 : h0.size ≤ e2x := Nat.le_trans K1.1 bz_b35
  obtain ⟨fs, hr, hrun, hended, hW, hsame⟩ := X10.leave (v := some (.ref e1x)) (fun h => by rw [hre] at h; cases h)
  refine ⟨_, _, pre0 _ ?_, hrun, hended, _, _, rfl, ?_, ⟨_, rfl⟩, hW, hsame.mono (by decide) (by decide)⟩
  · show SF p e below s₁ (mkF m 0 #[rv u1] []) _
    refine st1 _ ?_
    refine XS.dup X1.here hx rfl (hb hby d29_3) rfl rfl ?_
    refine XS.aloadN X1.here hx rfl (hb hby d29_4) rfl rfl ?_
    refine st10.trans ?_
    exact own_retR X10 hx hre rfl rfl (hb hby d29_8) hr
  · show Q29_52 Z u1 u2 u3 GC u4 u5 GF h0 n0 _ T10.heap _
    exact ⟨e1x, e2x, e3x, sz0_b30, sz0_b35, (Nat.ne_of_lt (Nat.lt_of_lt_of_le A1.lt bz_b35)), rfl, N10, K10, Fq10_0, Fq10_1, Fq10_2, Fq10_3⟩
theorem d31_41 : D31 41 (.getstatic 38) 3 := by decide +kernel
theorem d31_44 : D31 44 (.ifCond .eq 35) 3 := by decide +kernel
theorem d31_47 : D31 47 (.aload_n 1) 1 := by decide +kernel
theorem d31_48 : D31 48 (.getfield 1048) 3 := by decide +kernel
theorem d31_51 : D31 51 (.ifCond .eq 28) 3 := by decide +kernel
theorem d31_79 : D31 79 (.aload_n 0) 1 := by decide +kernel
theorem d31_80 : D31 80 (.iconst 1) 1 := by decide +kernel
theorem d31_81 : D31 81 (.putfield 15) 3 := by decide +kernel
theorem d31_84 : D31 84 (.aload_n 0) 1 := by decide +kernel
theorem d31_85 : D31 85 (.aload_n 3) 1 := by decide +kernel
theorem d31_86 : D31 86 (.iconst 0) 1 := by decide +kernel
theorem d31_87 : D31 87 (.iload 4) 2 := by decide +kernel
theorem d31_89 : D31 89 (.iconst 1) 1 := by decide +kernel
theorem d31_90 : D31 90 (.ishl) 1 := by decide +kernel
theorem d31_91 : D31 91 (.invokestatic 54) 3 := by decide +kernel
theorem d31_94 : D31 94 (.putfield 9) 3 := by decide +kernel
def Q31_53 (Z : State) (u1 : Addr) (u2 : Addr) (u3 : Addr) (u4 : List Int32) (GC : Int32) (u5 : ClassId) (u6 : Nat) (GF : Value) (h0 : Heap) (n0 : Nat) (v : Option Value) (h : Heap) (L : List Loc) : Prop := ∃ e1x : Addr, ∃ e2x : ClassId, h0.size ≤ e1x ∧ v = none ∧ Fr n0 L ∧ Keep h0 h [u1] ∧ Exa Z h u1 sq3 ∧ Fld Z h u1 sq3 "coder" "B" (.int 1) ∧ Fld Z h u1 sq3 "value" "[B" (.ref e1x) ∧ Arv Z h e1x e2x .byte (Int32.ofNat (2 * u4.length)) (own_wd u4) (.int (0 : Int32))
theorem rm31_53 (l : Launch) (Z : State) (a0 : Array Value) (hw : HW Z a0) (ws : List Jvm.Cond) (u1 : Addr) (u2 : Addr) (u3 : Addr) (u4 : List Int32) (GC : Int32) (u5 : ClassId) (u6 : Nat) (GF : Value) (h0 : Heap) (n0 : Nat) (Z0 : n0 ≤ h0.size) (P1 : Exa Z h0 u2 sq4) (P2 : Fld Z h0 u2 sq2 "value" "[B" (.ref u3)) (P3 : Fld Z h0 u2 sq2 "count" "I" (.int (Int32.ofNat u4.length))) (Sg0 : Sta Z Z.heap sq3 "COMPACT_STRINGS" "Z" (.int GC)) (P5 : Old Z n0 h0) (nzGC : ¬ (GC = (0 : Int32))) (P7 : Fld Z h0 u2 sq2 "coder" "B" (.int 1)) (P8 : Fld Z h0 u2 sq2 "maybeLatin1" "Z" (.int 0)) (P9 : Exa Z h0 u1 sq3) (P10 : Fld Z h0 u1 sq3 "coder" "B" (.int 0)) (P11 : Fld Z h0 u1 sq3 "value" "[B" .null) (P12 : n0 ≤ u1) (P13 : Arv Z h0 u3 u5 .byte (Int32.ofNat (2 * u6)) (own_wd u4) (.int (0 : Int32))) (P14 : u3 ≠ u1) (P15 : Exa Z h0 u3 "[B") (P16 : St Z GC GF) (P17 : (own_wd u4).length = (2 * u4.length)) (P18 : (2 * u4.length) ≤ (2 * u6)) (P19 : (2 * u6) < 25) (P20 : u1 < h0.size) :
    MF l Z mq16 (Jvm.Cond.code mq16 jdk_42_method_150_code 5 none) ws rq15 #[(.ref u1), (.ref u2), .null] h0 (Q31_53 Z u1 u2 u3 u4 GC u5 u6 GF h0 n0) := by
  refine own_enter (plainFor_of_name pn_2) fun p e s m below meth c s₁ X0 hx hby hml hown hnm hZ e0 hre hlk => ?_
  have N0 := Fr.nil n0
  have pre0 : ∀ t, SF p e below s₁ (mkF m 0 #[rv u1, rv u2, .val .null, .unset, .unset] []) t → SF p e below s₁ (entryFrame m #[(.ref u1), (.ref u2), .null] 5) t := fun t k => castTop (ef_37 m u1 u2) k
  obtain ⟨T1, X1, e1, st1⟩ := initO X0 hx hZ hown (tw hw 15 rfl) (tw hw 16 rfl) (tw hw 17 rfl) e0 (g := (mkF m 1 #[rv u1, rv u2, .val .null, .unset, .unset] [(.ref u1)])) rfl (by rw [hml]; rfl) rfl (hb hby d31_1) (by decide) (W := 0) (Nat.le_of_eq rfl) (by decide)
  obtain ⟨cq2, kq2, q2a, q2b, q2c⟩ := isOf hZ e1 P1
  obtain ⟨_, _, ⟨T2, L2, k2x, n2⟩, -, X2, ⟨Lc2, hQ2, l2, y2, z2⟩, st2⟩ := X1.virtualBack hx (y := mq7) (z := mq7) hown (mvT hZ (tw hw 164 rfl)) (mvT hZ (tw hw 165 rfl)) (notFace_of_selects (args := #[]) (mvT hZ (tw hw 167 rfl))) (mvT hZ (tw hw 167 rfl)) (mvT hZ (tw hw 166 rfl)) (by decide) (backOf (W := 0) (rm32_47 l Z a0 hw [] u2 u3 h0 n0 Z0 P2) hZ (tw hw 168 rfl) (tw hw 58 rfl) (by decide) (by decide)) q2a q2c (g := (mkF m 5 #[rv u1, rv u2, .val .null, .unset, .unset] [(.ref u2)])) rfl (by rw [hml]; rfl) (Steps.refl _) (argsL := []) (rest := []) (lenOf pd_25 rfl) rfl (Nat.le_of_eq rfl) (hb hby d31_5) (fun _ _ => ⟨rfl, e1, (by decide : 0 + 0 ≤ _), (by decide : 0 + 0 ≤ _)⟩)
  dsimp only [Pt.U, Pt.locs, Pt.cells, Pt.slots] at X2 l2 y2 z2 st2 hQ2
  subst l2 y2 z2
  obtain ⟨rfl, N2q, e2⟩ := hQ2
  have N2 := Fr.app N0 N2q
  obtain ⟨cq3, kq3, q3a, q3b, q3c⟩ := isOf hZ e2 P1
  obtain ⟨_, _, ⟨T3, L3, k3x, n3⟩, -, X3, ⟨Lc3, hQ3, l3, y3, z3⟩, st3⟩ := X2.virtualBack hx (y := mq11) (z := mq30) hown (mvT hZ (tw hw 169 rfl)) (mvT hZ (tw hw 170 rfl)) (own_nf (args := #[]) (n' := "ensureCapacityInternal") (d' := "(I)V") (mvT hZ (tw hw 107 rfl))) (mvT hZ (tw hw 172 rfl)) (mvT hZ (tw hw 173 rfl)) (by decide) (backOf (W := 0) (rm33_49 l Z a0 hw [] u2 u4 h0 n0 Z0 P3 P1) hZ (tw hw 174 rfl) (tw hw 40 rfl) (by decide) (by decide)) q3a q3c (g := (mkF m 10 #[rv u1, rv u2, .val .null, rv u3, .unset] [(.ref u2)])) rfl (by rw [hml]; rfl) (Steps.refl _) (argsL := []) (rest := []) (lenOf pd_19 rfl) rfl (Nat.le_of_eq rfl) (hb hby d31_10) (fun _ _ => ⟨rfl, e2, (by decide : 0 + 0 ≤ _), (by decide : 0 + 0 ≤ _)⟩)
  dsimp only [Pt.U, Pt.locs, Pt.cells, Pt.slots] at X3 l3 y3 z3 st3 hQ3
  subst l3 y3 z3
  obtain ⟨rfl, N3q, e3⟩ := hQ3
  have N3 := Fr.app N2 N3q
  obtain ⟨cq4, kq4, q4a, q4b, q4c⟩ := isOf hZ e3 P1
  obtain ⟨_, _, ⟨T4, L4, k4x, n4⟩, -, X4, ⟨Lc4, hQ4, l4, y4, z4⟩, st4⟩ := X3.virtualBack hx (y := mq10) (z := mq10) hown (mvT hZ (tw hw 177 rfl)) (mvT hZ (tw hw 178 rfl)) (notFace_of_selects (args := #[]) (mvT hZ (tw hw 180 rfl))) (mvT hZ (tw hw 180 rfl)) (mvT hZ (tw hw 179 rfl)) (by decide) (backOf (W := 0) (rm35_32 l Z a0 hw [] u2 GC h0 n0 Z0 Sg0 P5 nzGC P7) hZ (tw hw 181 rfl) (tw hw 58 rfl) (by decide) (by decide)) q4a q4c (g := (mkF m 16 #[rv u1, rv u2, .val .null, rv u3, iv (Int32.ofNat u4.length)] [(.ref u2)])) rfl (by rw [hml]; rfl) (Steps.refl _) (argsL := []) (rest := []) (lenOf pd_6 rfl) rfl (Nat.le_of_eq rfl) (hb hby d31_16) (fun _ _ => ⟨rfl, e3, (by decide : 0 + 0 ≤ _), (by decide : 0 + 0 ≤ _)⟩)
  dsimp only [Pt.U, Pt.locs, Pt.cells, Pt.slots] at X4 l4 y4 z4 st4 hQ4
  subst l4 y4 z4
  obtain ⟨rfl, N4q, e4⟩ := hQ4
  have N4 := Fr.app N3 N4q
  obtain ⟨T5, X5, e5, st5⟩ := getS2 X4 hx hZ hown (host := "") (Or.inl (tw hw 18 rfl)) Via.refl e4 (Sg0.ext P5.2) (g := (mkF m 41 #[rv u1, rv u2, .val .null, rv u3, iv (Int32.ofNat u4.length)] [])) rfl (hb hby d31_41)
  obtain ⟨T6, X6, e6, st6⟩ := getF X5 hx hZ hown (host := "") (Or.inl (tw hw 274 rfl)) Via.refl e5 P8 (g := (mkF m 48 #[rv u1, rv u2, .val .null, rv u3, iv (Int32.ofNat u4.length)] [(.ref u2)])) rfl rfl (hb hby d31_48)
  obtain ⟨T7, h7, X7, e7, W7, st7⟩ := putFN X6 hx hZ hown (tw hw 30 rfl) Via.refl e6 P10 P9 (Or.inr ⟨(tw hw 31 rfl), rfl, hnm⟩) (tw hw 5 rfl) (ty := .byte) (v' := (.int 1)) (by decide) (by decide) (by decide) (g := (mkF m 81 #[rv u1, rv u2, .val .null, rv u3, iv (Int32.ofNat u4.length)] [(.int 1), (.ref u1)])) rfl rfl (hb hby d31_81)
  have K7 : Keep h0 h7 [u1] := (Keep.refl h0 [u1]).wr W7 (Or.inl (List.mem_of_getElem? (i := 0) rfl))
  have N7 := Fr.snoc X7 N4 P12
  have Fw7 : Fld Z h7 u1 sq3 "coder" "B" (.int 1) := P10.same W7
  have F1_8 : Arv Z h7 u3 u5 .byte (Int32.ofNat (2 * u6)) (own_wd u4) (.int (0 : Int32)) := P13.other W7 P14
  have F1_9 : Exa Z h7 u3 "[B" := P15.wr W7
  have O7 : Old Z n0 h7 := P5.wr W7 P12
  have Z7 : n0 ≤ h7.size := Nat.le_trans Z0 (Keep.of_wr W7).1
  obtain ⟨_, _, ⟨T10, L10, k10x, n10⟩, -, X10, ⟨Lc10, hQ10, l10, y10, z10⟩, st10⟩ := Jvm.LawKit.callS X7 hx (y := mq50) hown (mvT hZ (tw hw 182 rfl)) (mvT hZ (tw hw 183 rfl)) (mvT hZ (tw hw 126 rfl)) (mvT hZ (tw hw 184 rfl)) (by decide) (backOf (W := 1) (cpr l Z a0 hw [] GC GF u3 u5 (2 * u6) (2 * u4.length) (own_wd u4) h7 n0 Z7 P16 O7 F1_8 F1_9 P17 P18 P19) hZ (tw hw 184 rfl) (tw hw 126 rfl) (by decide) (by decide)) (g := (mkF m 91 #[rv u1, rv u2, .val .null, rv u3, iv (Int32.ofNat u4.length)] [(.int (Int32.ofNat (2 * u4.length))), (.int 0), (.ref u3), (.ref u1)])) rfl (by rw [hml]; rfl) (argsL := [(.ref u3), (.int 0), (.int (Int32.ofNat (2 * u4.length)))]) (rest := [(.ref u1)]) (lenOf pd_24 rfl) rfl (Nat.le_of_eq rfl) (hb hby d31_91) (fun _ _ => ⟨rfl, e7, (by decide : 0 + 1 ≤ _), (by decide : 0 + 24 ≤ _)⟩)
  dsimp only [Pt.U, Pt.locs, Pt.cells, Pt.slots] at X10 l10 y10 z10 st10 hQ10
  subst l10 y10 z10
  obtain ⟨e1x, e2x, bz_b38, rfl, N10q, K10c, Fq10⟩ := hQ10
  have K10 : Keep h0 T10.heap [u1] := K7.trans K10c all0
  have N10 := Fr.app N7 N10q
  have F1_11 : Exa Z h7 u1 sq3 := P9.wr W7
  have F2_12 : Exa Z T10.heap u1 sq3 := F1_11.keep K10c
  have F1_13 : Fld Z h7 u1 sq3 "value" "[B" .null := P11.other W7 (Or.inr (slot_ne (Or.inr (tw hw 33 rfl)) (Or.inr (tw hw 31 rfl)) (by decide) (t := (.array .byte)) (t' := .byte) (by decide) (by decide)))
  have F2_14 : Fld Z T10.heap u1 sq3 "value" "[B" .null := F1_13.keep K10c nin0
  have F2_15 : Fld Z T10.heap u1 sq3 "coder" "B" (.int 1) := Fw7.keep K10c nin0
  obtain ⟨T16, h16, X16, e16, W16, st16⟩ := putF X10 hx hZ hown (host := "") (Or.inl (tw hw 32 rfl)) Via.refl rfl F2_14 F2_12 (Or.inr ⟨(tw hw 33 rfl), rfl, hnm⟩) (tw hw 5 rfl) (ty := (.array .byte)) (by decide) rfl rfl (g := (mkF m 94 #[rv u1, rv u2, .val .null, rv u3, iv (Int32.ofNat u4.length)] [(.ref e1x), (.ref u1)])) rfl rfl (hb hby d31_94)
  have K16 : Keep h0 h16 [u1] := K10.wr W16 (Or.inl (List.mem_of_getElem? (i := 0) rfl))
  have N16 := Fr.snoc X16 N10 P12
  have Fw16 : Fld Z h16 u1 sq3 "value" "[B" (.ref e1x) := F2_14.same W16
  have F3_17 : Exa Z h16 u1 sq3 := F2_12.wr W16
  have F3_18 : Fld Z h16 u1 sq3 "coder" "B" (.int 1) := F2_15.other W16 (Or.inr (slot_ne (Or.inr (tw hw 31 rfl)) (Or.inr (tw hw 33 rfl)) (by decide) (t := .byte) (t' := (.array .byte)) (by decide) (by decide)))
  have lt_b37_1 : u1 < h7.size := Nat.lt_of_lt_of_le P20 (Keep.of_wr W7).1
  have F3_19 : Arv Z h16 e1x e2x .byte (Int32.ofNat (2 * u4.length)) (own_wd u4) (.int (0 : Int32)) := Fq10.other W16 (Ne.symm (Nat.ne_of_lt (Nat.lt_of_lt_of_le lt_b37_1 bz_b38)))
  have sz0_b38 : h0.size ≤ e1x := Nat.le_trans K7.1 bz_b38
  obtain ⟨fs, hr, hrun, hended, hW, hsame⟩ := X16.leave (v := none) (fun _ => rfl)
  refine ⟨_, _, pre0 _ ?_, hrun, hended, _, _, rfl, ?_, ⟨_, rfl⟩, hW, hsame.mono (by decide) (by decide)⟩
  · show SF p e below s₁ (mkF m 0 #[rv u1, rv u2, .val .null, .unset, .unset] []) _
    refine XS.aloadN X0.here hx rfl (hb hby d31_0) rfl rfl ?_
    refine st1 _ ?_
    refine XS.aloadN X1.here hx rfl (hb hby d31_4) rfl rfl ?_
    refine st2.trans ?_
    refine XS.astoreN X2.here hx rfl (hb hby d31_8) rfl rfl (l' := #[rv u1, rv u2, .val .null, rv u3, .unset]) rfl ?_
    refine XS.aloadN X2.here hx rfl (hb hby d31_9) rfl rfl ?_
    refine st3.trans ?_
    refine XS.istore X3.here hx rfl (hb hby d31_13) rfl (l' := #[rv u1, rv u2, .val .null, rv u3, iv (Int32.ofNat u4.length)]) rfl ?_
    refine XS.aloadN X3.here hx rfl (hb hby d31_15) rfl rfl ?_
    refine st4.trans ?_
    refine XS.ifYes X4.here hx rfl (pc0 := 19) (pc' := 41) rfl (hb hby d31_19) rfl ((if0 _ _).trans (teq (by decide : (0 : Int32) = (0 : Int32))).1) (by decide) (by decide) ?_
    refine st5 _ ?_
    refine XS.ifNo X5.here hx rfl (hb hby d31_44) rfl ((if0 _ _).trans (feq nzGC).1) ?_
    refine XS.aloadN X5.here hx rfl (hb hby d31_47) rfl rfl ?_
    refine st6 _ ?_
    refine XS.ifYes X6.here hx rfl (pc0 := 51) (pc' := 79) rfl (hb hby d31_51) rfl ((if0 _ _).trans (teq (by decide : (0 : Int32) = (0 : Int32))).1) (by decide) (by decide) ?_
    refine XS.aloadN X6.here hx rfl (hb hby d31_79) rfl rfl ?_
    refine XS.iconst X6.here hx rfl (hb hby d31_80) ?_
    refine st7 _ ?_
    refine XS.aloadN X7.here hx rfl (hb hby d31_84) rfl rfl ?_
    refine XS.aloadN X7.here hx rfl (hb hby d31_85) rfl rfl ?_
    refine XS.iconst X7.here hx rfl (hb hby d31_86) ?_
    refine XS.iload X7.here hx rfl (hb hby d31_87) rfl ?_
    refine XS.iconst X7.here hx rfl (hb hby d31_89) ?_
    refine XS.ishl X7.here hx rfl (hb hby d31_90) rfl ?_
    show SF p e below T7 (mkF m 91 #[rv u1, rv u2, .val .null, rv u3, iv (Int32.ofNat u4.length)] [(.int ((Int32.ofNat u4.length) <<< ((1 : Int32) &&& 31))), (.int 0), (.ref u3), (.ref u1)]) _
    rw [(show ((Int32.ofNat u4.length) <<< ((1 : Int32) &&& 31)) = (Int32.ofNat (2 * u4.length)) from own_shl1 _)]
    refine st10 _ ?_
    refine st16 _ ?_
    exact X16.returnOut hx hre (hb hby d31_97) hr
  · show Q31_53 Z u1 u2 u3 u4 GC u5 u6 GF h0 n0 _ T16.heap _
    rw [e16]
    exact ⟨e1x, e2x, sz0_b38, rfl, N16, K16, F3_17, F3_18, Fw16, F3_19⟩
def Q30_54 (Z : State) (u1 : Addr) (u2 : Addr) (u3 : Addr) (u4 : List Int32) (GC : Int32) (u5 : ClassId) (u6 : Nat) (GF : Value) (h0 : Heap) (n0 : Nat) (v : Option Value) (h : Heap) (L : List Loc) : Prop := ∃ e1x : Addr, ∃ e2x : ClassId, h0.size ≤ e1x ∧ v = none ∧ Fr n0 L ∧ Keep h0 h [u1] ∧ Exa Z h u1 sq3 ∧ Fld Z h u1 sq3 "coder" "B" (.int 1) ∧ Fld Z h u1 sq3 "value" "[B" (.ref e1x) ∧ Arv Z h e1x e2x .byte (Int32.ofNat (2 * u4.length)) (own_wd u4) (.int (0 : Int32))
theorem rm30_54 (l : Launch) (Z : State) (a0 : Array Value) (hw : HW Z a0) (ws : List Jvm.Cond) (u1 : Addr) (u2 : Addr) (u3 : Addr) (u4 : List Int32) (GC : Int32) (u5 : ClassId) (u6 : Nat) (GF : Value) (h0 : Heap) (n0 : Nat) (Z0 : n0 ≤ h0.size) (P1 : Exa Z h0 u2 sq4) (P2 : Fld Z h0 u2 sq2 "value" "[B" (.ref u3)) (P3 : Fld Z h0 u2 sq2 "count" "I" (.int (Int32.ofNat u4.length))) (Sg0 : Sta Z Z.heap sq3 "COMPACT_STRINGS" "Z" (.int GC)) (P5 : Old Z n0 h0) (nzGC : ¬ (GC = (0 : Int32))) (P7 : Fld Z h0 u2 sq2 "coder" "B" (.int 1)) (P8 : Fld Z h0 u2 sq2 "maybeLatin1" "Z" (.int 0)) (P9 : Exa Z h0 u1 sq3) (P10 : Fld Z h0 u1 sq3 "coder" "B" (.int 0)) (P11 : Fld Z h0 u1 sq3 "value" "[B" .null) (P12 : n0 ≤ u1) (P13 : Arv Z h0 u3 u5 .byte (Int32.ofNat (2 * u6)) (own_wd u4) (.int (0 : Int32))) (P14 : u3 ≠ u1) (P15 : Exa Z h0 u3 "[B") (P16 : St Z GC GF) (P17 : (own_wd u4).length = (2 * u4.length)) (P18 : (2 * u4.length) ≤ (2 * u6)) (P19 : (2 * u6) < 25) (P20 : u1 < h0.size) :
    MF l Z mq17 (Jvm.Cond.code mq17 jdk_42_method_53_code 2 none) ws rq19 #[(.ref u1), (.ref u2)] h0 (Q30_54 Z u1 u2 u3 u4 GC u5 u6 GF h0 n0) := by
  refine own_enter (plainFor_of_name pn_2) fun p e s m below meth c s₁ X0 hx hby hml hown hnm hZ e0 hre hlk => ?_
  have N0 := Fr.nil n0
  have pre0 : ∀ t, SF p e below s₁ (mkF m 0 #[rv u1, rv u2] []) t → SF p e below s₁ (entryFrame m #[(.ref u1), (.ref u2)] 2) t := fun t k => castTop (ef_38 m u1 u2) k
  obtain ⟨_, _, ⟨T1, L1, k1x, n1⟩, -, X1, ⟨Lc1, hQ1, l1, y1, z1⟩, st1⟩ := X0.specialBack hx (y := mq16) rfl hown (mvT hZ (tw hw 161 rfl)) (mvT hZ (tw hw 162 rfl)) (mvT hZ (tw hw 163 rfl)) (by decide) (backOf (W := 0) (rm31_53 l Z a0 hw [] u1 u2 u3 u4 GC u5 u6 GF h0 n0 Z0 P1 P2 P3 Sg0 P5 nzGC P7 P8 P9 P10 P11 P12 P13 P14 P15 P16 P17 P18 P19 P20) hZ (tw hw 163 rfl) (tw hw 6 rfl) (by decide) (by decide)) (g := (mkF m 3 #[rv u1, rv u2] [.null, (.ref u2), (.ref u1)])) rfl (by rw [hml]; rfl) (Steps.refl _) (a := u1) (argsL := [(.ref u2), .null]) (rest := []) (lenOf pd_26 rfl) rfl (Nat.le_of_eq rfl) (hb hby d30_3) (fun _ _ => ⟨rfl, e0, (by decide : 0 + 1 ≤ _), (by decide : 0 + 24 ≤ _)⟩)
  dsimp only [Pt.U, Pt.locs, Pt.cells, Pt.slots] at X1 l1 y1 z1 st1 hQ1
  subst l1 y1 z1
  obtain ⟨e1x, e2x, bz_b40, rfl, N1q, K1c, Fq1_0, Fq1_1, Fq1_2, Fq1_3⟩ := hQ1
  have K1 : Keep h0 T1.heap [u1] := (Keep.refl h0 [u1]).trans K1c (allS (Or.inl (List.mem_of_getElem? (i := 0) rfl)) all0)
  have N1 := Fr.app N0 N1q
  have sz0_b40 : h0.size ≤ e1x := Nat.le_trans (Keep.refl h0 [u1]).1 bz_b40
  obtain ⟨fs, hr, hrun, hended, hW, hsame⟩ := X1.leave (v := none) (fun _ => rfl)
  refine ⟨_, _, pre0 _ ?_, hrun, hended, _, _, rfl, ?_, ⟨_, rfl⟩, hW, hsame.mono (by decide) (by decide)⟩
  · show SF p e below s₁ (mkF m 0 #[rv u1, rv u2] []) _
    refine XS.aloadN X0.here hx rfl (hb hby d30_0) rfl rfl ?_
    refine XS.aloadN X0.here hx rfl (hb hby d30_1) rfl rfl ?_
    refine XS.aconstNull X0.here hx rfl (hb hby d30_2) ?_
    refine st1.trans ?_
    exact X1.returnOut hx hre (hb hby d30_6) hr
  · show Q30_54 Z u1 u2 u3 u4 GC u5 u6 GF h0 n0 _ T1.heap _
    exact ⟨e1x, e2x, sz0_b40, rfl, N1, K1, Fq1_0, Fq1_1, Fq1_2, Fq1_3⟩
def Q29_55 (Z : State) (u1 : Addr) (u2 : Addr) (u3 : List Int32) (GC : Int32) (u4 : ClassId) (u5 : Nat) (GF : Value) (h0 : Heap) (n0 : Nat) (v : Option Value) (h : Heap) (L : List Loc) : Prop := ∃ e1x : Addr, ∃ e2x : Addr, ∃ e3x : ClassId, h0.size ≤ e1x ∧ h0.size ≤ e2x ∧ e1x ≠ e2x ∧ v = some (.ref e1x) ∧ Fr n0 L ∧ Keep h0 h [] ∧ Exa Z h e1x sq3 ∧ Fld Z h e1x sq3 "coder" "B" (.int 1) ∧ Fld Z h e1x sq3 "value" "[B" (.ref e2x) ∧ Arv Z h e2x e3x .byte (Int32.ofNat (2 * u3.length)) (own_wd u3) (.int (0 : Int32))
theorem rm29_55 (l : Launch) (Z : State) (a0 : Array Value) (hw : HW Z a0) (ws : List Jvm.Cond) (u1 : Addr) (u2 : Addr) (u3 : List Int32) (GC : Int32) (u4 : ClassId) (u5 : Nat) (GF : Value) (h0 : Heap) (n0 : Nat) (Z0 : n0 ≤ h0.size) (P1 : Exa Z h0 u1 sq4) (P2 : Fld Z h0 u1 sq2 "value" "[B" (.ref u2)) (P3 : Fld Z h0 u1 sq2 "count" "I" (.int (Int32.ofNat u3.length))) (Sg0 : Sta Z Z.heap sq3 "COMPACT_STRINGS" "Z" (.int GC)) (P5 : Old Z n0 h0) (nzGC : ¬ (GC = (0 : Int32))) (P7 : Fld Z h0 u1 sq2 "coder" "B" (.int 1)) (P8 : Fld Z h0 u1 sq2 "maybeLatin1" "Z" (.int 0)) (P9 : Arv Z h0 u2 u4 .byte (Int32.ofNat (2 * u5)) (own_wd u3) (.int (0 : Int32))) (P10 : u2 < h0.size) (P11 : Exa Z h0 u2 "[B") (P12 : St Z GC GF) (P13 : (own_wd u3).length = (2 * u3.length)) (P14 : (2 * u3.length) ≤ (2 * u5)) (P15 : (2 * u5) < 25) :
    MF l Z mq31 (Jvm.Cond.code mq31 jdk_67_method_42_code 1 (some (.object sq3))) ws rq22 #[(.ref u1)] h0 (Q29_55 Z u1 u2 u3 GC u4 u5 GF h0 n0) := by
  refine own_enter (plainFor_of_name pn_7) fun p e s m below meth c s₁ X0 hx hby hml hown hnm hZ e0 hre hlk => ?_
  have N0 := Fr.nil n0
  have pre0 : ∀ t, SF p e below s₁ (mkF m 0 #[rv u1] []) t → SF p e below s₁ (entryFrame m #[(.ref u1)] 1) t := fun t k => castTop (ef_39 m u1) k
  obtain ⟨T1, h1, X1, e1, E1, A1, D1, -, st1⟩ := newO X0 hx hZ hown (tw hw 157 rfl) (tw hw 5 rfl) (tw hw 6 rfl) e0 (g := (mkF m 0 #[rv u1] [])) rfl (hb hby d29_0) (by decide) (by decide)
  obtain ⟨e1x, g1⟩ : ∃ z, z = h0.size := ⟨_, rfl⟩
  rw [← g1] at A1 D1 st1
  have K1 : Keep h0 h1 [] := (Keep.refl h0 []).ext E1
  have Fn2 : Fld Z h1 e1x sq3 "coder" "B" (.int 0) := D1 (Or.inr (tw hw 31 rfl)) (ty := .byte) (by decide)
  have Fn3 : Fld Z h1 e1x sq3 "value" "[B" .null := D1 (Or.inr (tw hw 33 rfl)) (ty := (.array .byte)) (by decide)
  have F1_4 : Exa Z h1 u1 sq4 := P1.ext E1
  have F1_5 : Fld Z h1 u1 sq2 "value" "[B" (.ref u2) := P2.ext E1
  have F1_6 : Fld Z h1 u1 sq2 "count" "I" (.int (Int32.ofNat u3.length)) := P3.ext E1
  have O1 : Old Z n0 h1 := P5.ext E1
  have F1_7 : Fld Z h1 u1 sq2 "coder" "B" (.int 1) := P7.ext E1
  have F1_8 : Fld Z h1 u1 sq2 "maybeLatin1" "Z" (.int 0) := P8.ext E1
  have g_b37 : n0 ≤ e1x := Nat.le_trans Z0 (Nat.le_of_eq g1.symm)
  have F1_9 : Arv Z h1 u2 u4 .byte (Int32.ofNat (2 * u5)) (own_wd u3) (.int (0 : Int32)) := P9.ext E1
  have F1_10 : Exa Z h1 u2 "[B" := P11.ext E1
  have Z1 : n0 ≤ h1.size := Nat.le_trans Z0 E1.1
  obtain ⟨_, _, ⟨T11, L11, k11x, n11⟩, -, X11, ⟨Lc11, hQ11, l11, y11, z11⟩, st11⟩ := X1.specialBack hx (y := mq17) rfl hown (mvT hZ (tw hw 158 rfl)) (mvT hZ (tw hw 159 rfl)) (mvT hZ (tw hw 160 rfl)) (by decide) (backOf (W := 1) (rm30_54 l Z a0 hw [] e1x u1 u2 u3 GC u4 u5 GF h1 n0 Z1 F1_4 F1_5 F1_6 Sg0 O1 nzGC F1_7 F1_8 A1 Fn2 Fn3 g_b37 F1_9 (Nat.ne_of_lt (Nat.lt_of_lt_of_le P10 (Nat.le_of_eq g1.symm))) F1_10 P12 P13 P14 P15 A1.lt) hZ (tw hw 160 rfl) (tw hw 6 rfl) (by decide) (by decide)) (g := (mkF m 5 #[rv u1] [(.ref u1), (.ref e1x), (.ref e1x)])) rfl (by rw [hml]; rfl) (Steps.refl _) (a := e1x) (argsL := [(.ref u1)]) (rest := [(.ref e1x)]) (lenOf pd_27 rfl) rfl (Nat.le_of_eq rfl) (hb hby d29_5) (fun _ _ => ⟨rfl, e1, (by decide : 1 + 1 ≤ _), (by decide : 4 + 24 ≤ _)⟩)
  dsimp only [Pt.U, Pt.locs, Pt.cells, Pt.slots] at X11 l11 y11 z11 st11 hQ11
  subst l11 y11 z11
  obtain ⟨e2x, e3x, bz_b42, rfl, N11q, K11c, Fq11_0, Fq11_1, Fq11_2, Fq11_3⟩ := hQ11
  have sz0_b37 : h0.size ≤ e1x := Nat.le_trans (Keep.refl h0 []).1 (Nat.le_of_eq g1.symm)
  have K11 : Keep h0 T11.heap [] := K1.trans K11c (allS (Or.inr sz0_b37) all0)
  have N11 := Fr.app N0 N11q
  have sz0_b42 : h0.size ≤ e2x := Nat.le_trans K1.1 bz_b42
  obtain ⟨fs, hr, hrun, hended, hW, hsame⟩ := X11.leave (v := some (.ref e1x)) (fun h => by rw [hre] at h; cases h)
  refine ⟨_, _, pre0 _ ?_, hrun, hended, _, _, rfl, ?_, ⟨_, rfl⟩, hW, hsame.mono (by decide) (by decide)⟩
  · show SF p e below s₁ (mkF m 0 #[rv u1] []) _
    refine st1 _ ?_
    refine XS.dup X1.here hx rfl (hb hby d29_3) rfl rfl ?_
    refine XS.aloadN X1.here hx rfl (hb hby d29_4) rfl rfl ?_
    refine st11.trans ?_
    exact own_retR X11 hx hre rfl rfl (hb hby d29_8) hr
  · show Q29_55 Z u1 u2 u3 GC u4 u5 GF h0 n0 _ T11.heap _
    exact ⟨e1x, e2x, e3x, sz0_b37, sz0_b42, (Nat.ne_of_lt (Nat.lt_of_lt_of_le A1.lt bz_b42)), rfl, N11, K11, Fq11_0, Fq11_1, Fq11_2, Fq11_3⟩
abbrev D11 (n : Nat) (i : Instr) (k : Nat) : Prop := decode jdk_67_method_2_code n = .ok (i, k)
theorem d11_0 : D11 0 (.aload_n 0) 1 := by decide +kernel
theorem d11_1 : D11 1 (.iload_n 1) 1 := by decide +kernel
theorem d11_2 : D11 2 (.invokespecial 1) 3 := by decide +kernel
abbrev D12 (n : Nat) (i : Instr) (k : Nat) : Prop := decode jdk_68_method_2_code n = .ok (i, k)
theorem d12_0 : D12 0 (.aload_n 0) 1 := by decide +kernel
theorem d12_1 : D12 1 (.invokespecial 3) 3 := by decide +kernel
theorem d12_4 : D12 4 (.getstatic 18) 3 := by decide +kernel
theorem d12_7 : D12 7 (.ifCond .eq 18) 3 := by decide +kernel
theorem d12_10 : D12 10 (.aload_n 0) 1 := by decide +kernel
theorem d12_11 : D12 11 (.iload_n 1) 1 := by decide +kernel
theorem d12_12 : D12 12 (.newarray .byte) 2 := by decide +kernel
theorem d12_14 : D12 14 (.putfield 15) 3 := by decide +kernel
theorem d12_17 : D12 17 (.aload_n 0) 1 := by decide +kernel
theorem d12_18 : D12 18 (.iconst 0) 1 := by decide +kernel
theorem d12_19 : D12 19 (.putfield 22) 3 := by decide +kernel
theorem d12_22 : D12 22 (.goto 16) 3 := by decide +kernel
theorem d12_38 : D12 38 (.return_) 1 := by decide +kernel
theorem ef_40 (m : MethodId) (x0 : Addr) (x1 : Int32) : entryFrame m #[(.ref x0), (.int x1)] 2 = mkF m 0 #[.val (.ref x0), .val (.int x1)] [] := by first | (simp [entryFrame, mkF, argsToLocals, Value.category]; done) | rfl
def Q12_56 (Z : State) (u1 : Addr) (u2 : Nat) (GC : Int32) (h0 : Heap) (n0 : Nat) (v : Option Value) (h : Heap) (L : List Loc) : Prop := ∃ e1x : Addr, ∃ e2x : ClassId, h0.size ≤ e1x ∧ v = none ∧ Fr n0 L ∧ Keep h0 h [u1] ∧ Exa Z h u1 sq4 ∧ Fld Z h u1 sq2 "value" "[B" (.ref e1x) ∧ Fld Z h u1 sq2 "coder" "B" (.int 0) ∧ Fld Z h u1 sq2 "count" "I" (.int 0) ∧ Fld Z h u1 sq2 "maybeLatin1" "Z" (.int 0) ∧ Arv Z h e1x e2x .byte (Int32.ofNat u2) [] (.int (0 : Int32)) ∧ Exa Z h e1x "[B"
theorem rm12_56 (l : Launch) (Z : State) (a0 : Array Value) (hw : HW Z a0) (ws : List Jvm.Cond) (u1 : Addr) (u2 : Nat) (GC : Int32) (h0 : Heap) (n0 : Nat) (Z0 : n0 ≤ h0.size) (Sg0 : Sta Z Z.heap sq3 "COMPACT_STRINGS" "Z" (.int GC)) (P2 : Old Z n0 h0) (nzGC : ¬ (GC = (0 : Int32))) (P4 : ¬ (Int32.ofNat u2) < 0) (P5 : ((Int32.ofNat u2)).toNatClampNeg ≤ 3) (P6 : Exa Z h0 u1 sq4) (P7 : Fld Z h0 u1 sq2 "value" "[B" .null) (P8 : Fld Z h0 u1 sq2 "coder" "B" (.int 0)) (P9 : Fld Z h0 u1 sq2 "count" "I" (.int 0)) (P10 : Fld Z h0 u1 sq2 "maybeLatin1" "Z" (.int 0)) (P11 : n0 ≤ u1) (P12 : u1 < h0.size) :
    MF l Z mq3 (Jvm.Cond.code mq3 jdk_68_method_2_code 2 none) ws ({ frames := 1, cells := 1, slots := 3, locals := 12 } : Room) #[(.ref u1), (.int (Int32.ofNat u2))] h0 (Q12_56 Z u1 u2 GC h0 n0) := by
  refine own_enter (plainFor_of_name pn_4) fun p e s m below meth c s₁ X0 hx hby hml hown hnm hZ e0 hre hlk => ?_
  have N0 := Fr.nil n0
  have pre0 : ∀ t, SF p e below s₁ (mkF m 0 #[rv u1, iv (Int32.ofNat u2)] []) t → SF p e below s₁ (entryFrame m #[(.ref u1), (.int (Int32.ofNat u2))] 2) t := fun t k => castTop (ef_40 m u1 (Int32.ofNat u2)) k
  obtain ⟨T1, X1, e1, st1⟩ := initO X0 hx hZ hown (tw hw 60 rfl) (tw hw 16 rfl) (tw hw 17 rfl) e0 (g := (mkF m 1 #[rv u1, iv (Int32.ofNat u2)] [(.ref u1)])) rfl (by rw [hml]; rfl) rfl (hb hby d12_1) (by decide) (W := 0) (Nat.le_of_eq rfl) (by decide)
  obtain ⟨T2, X2, e2, st2⟩ := getS2 X1 hx hZ hown (host := "") (Or.inl (tw hw 61 rfl)) Via.refl e1 (Sg0.ext P2.2) (g := (mkF m 4 #[rv u1, iv (Int32.ofNat u2)] [])) rfl (hb hby d12_4)
  obtain ⟨T3, h3, e2x, X3, e3, E3, A3, Ex3, st3⟩ := newPE X2 hx hZ (tw hw 23 rfl) e2 (g := (mkF m 12 #[rv u1, iv (Int32.ofNat u2)] [(.int (Int32.ofNat u2)), (.ref u1)])) rfl (hb hby d12_12) rfl P4 (cap := 3) P5 (by decide) (by decide) (by decide) (ad := "[B") rfl
  obtain ⟨e1x, g3⟩ : ∃ z, z = h0.size := ⟨_, rfl⟩
  rw [← g3] at A3 st3 Ex3
  have K3 : Keep h0 h3 [u1] := (Keep.refl h0 [u1]).ext E3
  have V3 : Arv Z h3 e1x e2x .byte (Int32.ofNat u2) [] (.int (0 : Int32)) := Arv.new A3 P4
  have F1_4 : Exa Z h3 u1 sq4 := P6.ext E3
  have F1_5 : Fld Z h3 u1 sq2 "value" "[B" .null := P7.ext E3
  have F1_6 : Fld Z h3 u1 sq2 "coder" "B" (.int 0) := P8.ext E3
  have F1_7 : Fld Z h3 u1 sq2 "count" "I" (.int 0) := P9.ext E3
  have F1_8 : Fld Z h3 u1 sq2 "maybeLatin1" "Z" (.int 0) := P10.ext E3
  obtain ⟨T9, h9, X9, e9, W9, st9⟩ := putF X3 hx hZ hown (host := "") (Or.inl (tw hw 62 rfl)) Via.refl e3 F1_5 F1_4 (Or.inl (tw hw 63 rfl)) (tw hw 39 rfl) (ty := (.array .byte)) (by decide) rfl rfl (g := (mkF m 14 #[rv u1, iv (Int32.ofNat u2)] [(.ref e1x), (.ref u1)])) rfl rfl (hb hby d12_14)
  have K9 : Keep h0 h9 [u1] := K3.wr W9 (Or.inl (List.mem_of_getElem? (i := 0) rfl))
  have N9 := Fr.snoc X9 N0 P11
  have Fw9 : Fld Z h9 u1 sq2 "value" "[B" (.ref e1x) := F1_5.same W9
  have F2_10 : Exa Z h9 u1 sq4 := F1_4.wr W9
  have F2_11 : Fld Z h9 u1 sq2 "coder" "B" (.int 0) := F1_6.other W9 (Or.inr (slot_ne (Or.inl (tw hw 65 rfl)) (Or.inl (tw hw 63 rfl)) (by decide) (t := .byte) (t' := (.array .byte)) (by decide) (by decide)))
  have F2_12 : Fld Z h9 u1 sq2 "count" "I" (.int 0) := F1_7.other W9 (Or.inr (slot_ne (Or.inl (tw hw 103 rfl)) (Or.inl (tw hw 63 rfl)) (by decide) (t := .int) (t' := (.array .byte)) (by decide) (by decide)))
  have F2_13 : Fld Z h9 u1 sq2 "maybeLatin1" "Z" (.int 0) := F1_8.other W9 (Or.inr (slot_ne (Or.inl (tw hw 275 rfl)) (Or.inl (tw hw 63 rfl)) (by decide) (t := .boolean) (t' := (.array .byte)) (by decide) (by decide)))
  obtain ⟨T14, h14, X14, e14, W14, st14⟩ := putFN X9 hx hZ hown (tw hw 64 rfl) Via.refl e9 F2_11 F2_10 (Or.inl (tw hw 65 rfl)) (tw hw 39 rfl) (ty := .byte) (v' := (.int 0)) (by decide) (by decide) (by decide) (g := (mkF m 19 #[rv u1, iv (Int32.ofNat u2)] [(.int 0), (.ref u1)])) rfl rfl (hb hby d12_19)
  have K14 : Keep h0 h14 [u1] := K9.wr W14 (Or.inl (List.mem_of_getElem? (i := 0) rfl))
  have N14 := Fr.snoc X14 N9 P11
  have Fw14 : Fld Z h14 u1 sq2 "coder" "B" (.int 0) := F2_11.same W14
  have F3_15 : Exa Z h14 u1 sq4 := F2_10.wr W14
  have F3_16 : Fld Z h14 u1 sq2 "value" "[B" (.ref e1x) := Fw9.other W14 (Or.inr (slot_ne (Or.inl (tw hw 63 rfl)) (Or.inl (tw hw 65 rfl)) (by decide) (t := (.array .byte)) (t' := .byte) (by decide) (by decide)))
  have F3_17 : Fld Z h14 u1 sq2 "count" "I" (.int 0) := F2_12.other W14 (Or.inr (slot_ne (Or.inl (tw hw 103 rfl)) (Or.inl (tw hw 65 rfl)) (by decide) (t := .int) (t' := .byte) (by decide) (by decide)))
  have F3_18 : Fld Z h14 u1 sq2 "maybeLatin1" "Z" (.int 0) := F2_13.other W14 (Or.inr (slot_ne (Or.inl (tw hw 275 rfl)) (Or.inl (tw hw 65 rfl)) (by decide) (t := .boolean) (t' := .byte) (by decide) (by decide)))
  have F2_19 : Arv Z h9 e1x e2x .byte (Int32.ofNat u2) [] (.int (0 : Int32)) := V3.other W9 (Ne.symm (Nat.ne_of_lt (Nat.lt_of_lt_of_le P12 (Nat.le_of_eq g3.symm))))
  have F3_20 : Arv Z h14 e1x e2x .byte (Int32.ofNat u2) [] (.int (0 : Int32)) := F2_19.other W14 (Ne.symm (Nat.ne_of_lt (Nat.lt_of_lt_of_le P12 (Nat.le_of_eq g3.symm))))
  have F2_21 : Exa Z h9 e1x "[B" := Ex3.wr W9
  have F3_22 : Exa Z h14 e1x "[B" := F2_21.wr W14
  have sz0_b45 : h0.size ≤ e1x := Nat.le_trans (Keep.refl h0 [u1]).1 (Nat.le_of_eq g3.symm)
  obtain ⟨fs, hr, hrun, hended, hW, hsame⟩ := X14.leave (v := none) (fun _ => rfl)
  refine ⟨_, _, pre0 _ ?_, hrun, hended, _, _, rfl, ?_, ⟨_, rfl⟩, hW, hsame.mono (by decide) (by decide)⟩
  · show SF p e below s₁ (mkF m 0 #[rv u1, iv (Int32.ofNat u2)] []) _
    refine XS.aloadN X0.here hx rfl (hb hby d12_0) rfl rfl ?_
    refine st1 _ ?_
    refine st2 _ ?_
    refine XS.ifNo X2.here hx rfl (hb hby d12_7) rfl ((if0 _ _).trans (feq nzGC).1) ?_
    refine XS.aloadN X2.here hx rfl (hb hby d12_10) rfl rfl ?_
    refine XS.iloadN X2.here hx rfl (hb hby d12_11) rfl ?_
    refine st3 _ ?_
    refine st9 _ ?_
    refine XS.aloadN X9.here hx rfl (hb hby d12_17) rfl rfl ?_
    refine XS.iconst X9.here hx rfl (hb hby d12_18) ?_
    refine st14 _ ?_
    refine XS.goto X14.here hx rfl (pc0 := 22) (pc' := 38) rfl (hb hby d12_22) (by decide) (by decide) ?_
    exact X14.returnOut hx hre (hb hby d12_38) hr
  · show Q12_56 Z u1 u2 GC h0 n0 _ T14.heap _
    rw [e14]
    exact ⟨e1x, e2x, sz0_b45, rfl, N14, K14, F3_15, F3_16, Fw14, F3_17, F3_18, F3_20, F3_22⟩
theorem d11_5 : D11 5 (.return_) 1 := by decide +kernel
theorem ef_41 (m : MethodId) (x0 : Addr) (x1 : Int32) : entryFrame m #[(.ref x0), (.int x1)] 2 = mkF m 0 #[.val (.ref x0), .val (.int x1)] [] := by first | (simp [entryFrame, mkF, argsToLocals, Value.category]; done) | rfl
def Q11_57 (Z : State) (u1 : Addr) (u2 : Nat) (GC : Int32) (h0 : Heap) (n0 : Nat) (v : Option Value) (h : Heap) (L : List Loc) : Prop := ∃ e1x : Addr, ∃ e2x : ClassId, h0.size ≤ e1x ∧ v = none ∧ Fr n0 L ∧ Keep h0 h [u1] ∧ Exa Z h u1 sq4 ∧ Fld Z h u1 sq2 "value" "[B" (.ref e1x) ∧ Fld Z h u1 sq2 "coder" "B" (.int 0) ∧ Fld Z h u1 sq2 "count" "I" (.int 0) ∧ Fld Z h u1 sq2 "maybeLatin1" "Z" (.int 0) ∧ Arv Z h e1x e2x .byte (Int32.ofNat u2) [] (.int (0 : Int32)) ∧ Exa Z h e1x "[B"
theorem rm11_57 (l : Launch) (Z : State) (a0 : Array Value) (hw : HW Z a0) (ws : List Jvm.Cond) (u1 : Addr) (u2 : Nat) (GC : Int32) (h0 : Heap) (n0 : Nat) (Z0 : n0 ≤ h0.size) (Sg0 : Sta Z Z.heap sq3 "COMPACT_STRINGS" "Z" (.int GC)) (P2 : Old Z n0 h0) (nzGC : ¬ (GC = (0 : Int32))) (P4 : ¬ (Int32.ofNat u2) < 0) (P5 : ((Int32.ofNat u2)).toNatClampNeg ≤ 3) (P6 : Exa Z h0 u1 sq4) (P7 : Fld Z h0 u1 sq2 "value" "[B" .null) (P8 : Fld Z h0 u1 sq2 "coder" "B" (.int 0)) (P9 : Fld Z h0 u1 sq2 "count" "I" (.int 0)) (P10 : Fld Z h0 u1 sq2 "maybeLatin1" "Z" (.int 0)) (P11 : n0 ≤ u1) (P12 : u1 < h0.size) :
    MF l Z mq27 (Jvm.Cond.code mq27 jdk_67_method_2_code 2 none) ws rq16 #[(.ref u1), (.int (Int32.ofNat u2))] h0 (Q11_57 Z u1 u2 GC h0 n0) := by
  refine own_enter (plainFor_of_name pn_7) fun p e s m below meth c s₁ X0 hx hby hml hown hnm hZ e0 hre hlk => ?_
  have N0 := Fr.nil n0
  have pre0 : ∀ t, SF p e below s₁ (mkF m 0 #[rv u1, iv (Int32.ofNat u2)] []) t → SF p e below s₁ (entryFrame m #[(.ref u1), (.int (Int32.ofNat u2))] 2) t := fun t k => castTop (ef_41 m u1 (Int32.ofNat u2)) k
  obtain ⟨_, _, ⟨T1, L1, k1x, n1⟩, -, X1, ⟨Lc1, hQ1, l1, y1, z1⟩, st1⟩ := X0.specialBack hx (y := mq3) rfl hown (mvT hZ (tw hw 54 rfl)) (mvT hZ (tw hw 55 rfl)) (mvT hZ (tw hw 59 rfl)) (by decide) (backOf (W := 0) (rm12_56 l Z a0 hw [] u1 u2 GC h0 n0 Z0 Sg0 P2 nzGC P4 P5 P6 P7 P8 P9 P10 P11 P12) hZ (tw hw 59 rfl) (tw hw 58 rfl) (by decide) (by decide)) (g := (mkF m 2 #[rv u1, iv (Int32.ofNat u2)] [(.int (Int32.ofNat u2)), (.ref u1)])) rfl (by rw [hml]; rfl) (Steps.refl _) (a := u1) (argsL := [(.int (Int32.ofNat u2))]) (rest := []) (lenOf pd_14 rfl) rfl (Nat.le_of_eq rfl) (hb hby d11_2) (fun _ _ => ⟨rfl, e0, (by decide : 0 + 1 ≤ _), (by decide : 0 + 3 ≤ _)⟩)
  dsimp only [Pt.U, Pt.locs, Pt.cells, Pt.slots] at X1 l1 y1 z1 st1 hQ1
  subst l1 y1 z1
  obtain ⟨e1x, e2x, bz_b46, rfl, N1q, K1c, Fq1_0, Fq1_1, Fq1_2, Fq1_3, Fq1_4, Fq1_5, Fq1_6⟩ := hQ1
  have K1 : Keep h0 T1.heap [u1] := (Keep.refl h0 [u1]).trans K1c (allS (Or.inl (List.mem_of_getElem? (i := 0) rfl)) all0)
  have N1 := Fr.app N0 N1q
  have sz0_b46 : h0.size ≤ e1x := Nat.le_trans (Keep.refl h0 [u1]).1 bz_b46
  obtain ⟨fs, hr, hrun, hended, hW, hsame⟩ := X1.leave (v := none) (fun _ => rfl)
  refine ⟨_, _, pre0 _ ?_, hrun, hended, _, _, rfl, ?_, ⟨_, rfl⟩, hW, hsame.mono (by decide) (by decide)⟩
  · show SF p e below s₁ (mkF m 0 #[rv u1, iv (Int32.ofNat u2)] []) _
    refine XS.aloadN X0.here hx rfl (hb hby d11_0) rfl rfl ?_
    refine XS.iloadN X0.here hx rfl (hb hby d11_1) rfl ?_
    refine st1.trans ?_
    exact X1.returnOut hx hre (hb hby d11_5) hr
  · show Q11_57 Z u1 u2 GC h0 n0 _ T1.heap _
    exact ⟨e1x, e2x, sz0_b46, rfl, N1, K1, Fq1_0, Fq1_1, Fq1_2, Fq1_3, Fq1_4, Fq1_5, Fq1_6⟩
theorem tos (l : Launch) (Z : State) (a0 : Array Value) (hw : HW Z a0) (ws : List Jvm.Cond) (GC : Int32) (GF : Value) (sba ta : Addr) (csa : List Int32) (b : Nat) (h0 : Heap) (n0 : Nat) (Z0 : n0 ≤ h0.size) (S : St Z GC GF) (O : Old Z n0 h0) (B : Bld Z h0 n0 b sba ta csa) (hk : csa.length < 7) :
    MF l Z mq31 (Jvm.Cond.code mq31 jdk_67_method_42_code 1 (some (.object sq3))) ws rq22 #[(.ref sba)] h0 (QT Z csa h0 n0) := by
  obtain ⟨k, n, cd, Eb, Fv, Fc, Fn, Fm, Et, ne, gs, gt, hkn, hn1, hn, hor⟩ := B
  rcases hor with ⟨rfl, At, hall⟩ | ⟨rfl, At, hex⟩
  · refine own_mf (rm29_52 l Z a0 hw ws sba ta csa GC k n GF h0 n0 Z0 Eb Fv Fn S.1 O S.2.2.2.1 Fc At At.lt Et S (own_lo_len csa) (by omega) (by omega)) fun v h L q => ?_
    obtain ⟨b1, b2, k3, s1, s2, nn, q1, q2, q3, f0, f1, f2, f3⟩ := q
    exact ⟨b1, b2, q1, s1, s2, q2, q3, k3, _, _, _, f0, f2, f1, f3, Or.inl ⟨rfl, rfl, rfl, hall⟩⟩
  · refine own_mf (rm29_55 l Z a0 hw ws sba ta csa GC k n GF h0 n0 Z0 Eb Fv Fn S.1 O S.2.2.2.1 Fc Fm At At.lt Et S (own_wd_len csa) (by omega) (by omega)) fun v h L q => ?_
    obtain ⟨b1, b2, k3, s1, s2, nn, q1, q2, q3, f0, f1, f2, f3⟩ := q
    exact ⟨b1, b2, q1, s1, s2, q2, q3, k3, _, _, _, f0, f2, f1, f3, Or.inr ⟨rfl, rfl, rfl, hex⟩⟩
theorem sbi (l : Launch) (Z : State) (a0 : Array Value) (hw : HW Z a0) (ws : List Jvm.Cond) (GC : Int32) (GF : Value) (sba : Addr) (na0 : Nat) (h0 : Heap) (n0 : Nat) (Z0 : n0 ≤ h0.size) (S : St Z GC GF) (O : Old Z n0 h0) (Eb : Exa Z h0 sba sq4) (Fv : Fld Z h0 sba sq2 "value" "[B" .null) (Fc : Fld Z h0 sba sq2 "coder" "B" (.int 0)) (Fn : Fld Z h0 sba sq2 "count" "I" (.int 0)) (Fm : Fld Z h0 sba sq2 "maybeLatin1" "Z" (.int 0)) (gs : n0 ≤ sba) (hn : na0 < 4) :
    MF l Z mq27 (Jvm.Cond.code mq27 jdk_67_method_2_code 2 none) ws rq16 #[(.ref sba), (.int (Int32.ofNat na0))] h0 (QB Z sba na0 h0 n0) := by
  refine own_mf (rm11_57 l Z a0 hw ws sba na0 GC h0 n0 Z0 S.1 O S.2.2.2.1 ((by decide +kernel : ∀ na0 < 4, ((¬ (Int32.ofNat na0) < 0) ∧ True)) na0 hn).1 ((by decide +kernel : ∀ na0 < 4, ((((Int32.ofNat na0)).toNatClampNeg ≤ 3) ∧ True)) na0 hn).1 Eb Fv Fc Fn Fm gs Eb.lt) fun v h L q => ?_
  obtain ⟨b1, k3, s1, q1, q2, q3, f0, f1, f2, f3, f4, f5, f6⟩ := q
  exact ⟨b1, s1, q1, q2, q3, k3, na0, 0, f0, f1, f2, f3, f4, f6, Nat.ne_of_gt (Nat.lt_of_lt_of_le Eb.lt s1), gs, Nat.le_trans Z0 s1, Nat.zero_le _, Nat.le_refl _, by omega, Or.inl ⟨rfl, f5, fun c hc => by cases hc⟩⟩
abbrev D13 (n : Nat) (i : Instr) (k : Nat) : Prop := decode jdk_42_method_56_code n = .ok (i, k)
theorem d13_0 : D13 0 (.aload_n 0) 1 := by decide +kernel
theorem d13_1 : D13 1 (.invokevirtual 492) 3 := by decide +kernel
abbrev D14 (n : Nat) (i : Instr) (k : Nat) : Prop := decode jdk_42_method_154_code n = .ok (i, k)
theorem d14_0 : D14 0 (.getstatic 38) 3 := by decide +kernel
theorem d14_3 : D14 3 (.ifCond .eq 14) 3 := by decide +kernel
theorem d14_6 : D14 6 (.aload_n 0) 1 := by decide +kernel
theorem d14_7 : D14 7 (.getfield 15) 3 := by decide +kernel
theorem d14_10 : D14 10 (.ifCond .ne 7) 3 := by decide +kernel
theorem d14_17 : D14 17 (.iconst 0) 1 := by decide +kernel
theorem d14_18 : D14 18 (.ireturn) 1 := by decide +kernel
theorem ef_42 (m : MethodId) (x0 : Addr) : entryFrame m #[(.ref x0)] 1 = mkF m 0 #[.val (.ref x0)] [] := by first | (simp [entryFrame, mkF, argsToLocals, Value.category]; done) | rfl
def Q14_58 (Z : State) (u1 : Addr) (GC : Int32) (h0 : Heap) (n0 : Nat) (v : Option Value) (h : Heap) (L : List Loc) : Prop := v = some (.int 0) ∧ Fr n0 L ∧ h = h0
theorem rm14_58 (l : Launch) (Z : State) (a0 : Array Value) (hw : HW Z a0) (ws : List Jvm.Cond) (u1 : Addr) (GC : Int32) (h0 : Heap) (n0 : Nat) (Z0 : n0 ≤ h0.size) (Sg0 : Sta Z Z.heap sq3 "COMPACT_STRINGS" "Z" (.int GC)) (P2 : Old Z n0 h0) (nzGC : ¬ (GC = (0 : Int32))) (P4 : Fld Z h0 u1 sq3 "coder" "B" (.int 1)) :
    MF l Z mq25 (Jvm.Cond.code mq25 jdk_42_method_154_code 1 (some .boolean)) ws rq0 #[(.ref u1)] h0 (Q14_58 Z u1 GC h0 n0) := by
  refine own_enter (plainFor_of_name pn_2) fun p e s m below meth c s₁ X0 hx hby hml hown hnm hZ e0 hre hlk => ?_
  have N0 := Fr.nil n0
  have pre0 : ∀ t, SF p e below s₁ (mkF m 0 #[rv u1] []) t → SF p e below s₁ (entryFrame m #[(.ref u1)] 1) t := fun t k => castTop (ef_42 m u1) k
  obtain ⟨T1, X1, e1, st1⟩ := getS2 X0 hx hZ hown (host := "") (Or.inl (tw hw 18 rfl)) Via.refl e0 (Sg0.ext P2.2) (g := (mkF m 0 #[rv u1] [])) rfl (hb hby d14_0)
  obtain ⟨T2, X2, e2, st2⟩ := getF X1 hx hZ hown (host := "") (Or.inl (tw hw 30 rfl)) Via.refl e1 P4 (g := (mkF m 7 #[rv u1] [(.ref u1)])) rfl rfl (hb hby d14_7)
  obtain ⟨fs, hr, hrun, hended, hW, hsame⟩ := X2.leave (v := some (.int 0)) (fun h => by rw [hre] at h; cases h)
  refine ⟨_, _, pre0 _ ?_, hrun, hended, _, _, rfl, ?_, ⟨_, rfl⟩, hW, hsame.mono (by decide) (by decide)⟩
  · show SF p e below s₁ (mkF m 0 #[rv u1] []) _
    refine st1 _ ?_
    refine XS.ifNo X1.here hx rfl (hb hby d14_3) rfl ((if0 _ _).trans (feq nzGC).1) ?_
    refine XS.aloadN X1.here hx rfl (hb hby d14_6) rfl rfl ?_
    refine st2 _ ?_
    refine XS.ifYes X2.here hx rfl (pc0 := 10) (pc' := 17) rfl (hb hby d14_10) rfl ((if0 _ _).trans (feq (by decide : ¬ ((1 : Int32) = (0 : Int32)))).2) (by decide) (by decide) ?_
    refine XS.iconst X2.here hx rfl (hb hby d14_17) ?_
    exact retN X2 hx (t := .boolean) hre (by simp) (hb hby d14_18) hr
  · show Q14_58 Z u1 GC h0 n0 _ T2.heap _
    rw [e2]
    exact ⟨rfl, N0, rfl⟩
theorem d13_4 : D13 4 (.ifCond .eq 12) 3 := by decide +kernel
theorem d13_16 : D13 16 (.aload_n 0) 1 := by decide +kernel
theorem d13_17 : D13 17 (.getfield 9) 3 := by decide +kernel
theorem d13_20 : D13 20 (.iload_n 1) 1 := by decide +kernel
theorem d13_21 : D13 21 (.invokestatic 498) 3 := by decide +kernel
abbrev D48 (n : Nat) (i : Instr) (k : Nat) : Prop := decode jdk_52_method_83_code n = .ok (i, k)
theorem d48_0 : D48 0 (.iload_n 1) 1 := by decide +kernel
theorem d48_1 : D48 1 (.aload_n 0) 1 := by decide +kernel
theorem d48_2 : D48 2 (.invokestatic 67) 3 := by decide +kernel
def Q50_59 (Z : State) (u1 : Addr) (u2 : ClassId) (u3 : List Int32) (h0 : Heap) (n0 : Nat) (v : Option Value) (h : Heap) (L : List Loc) : Prop := v = some (.int (Int32.ofNat u3.length)) ∧ Fr n0 L ∧ h = h0
theorem rm50_59 (l : Launch) (Z : State) (a0 : Array Value) (hw : HW Z a0) (ws : List Jvm.Cond) (u1 : Addr) (u2 : ClassId) (u3 : List Int32) (h0 : Heap) (n0 : Nat) (Z0 : n0 ≤ h0.size) (P1 : Arv Z h0 u1 u2 .byte (Int32.ofNat (2 * u3.length)) (own_wd u3) (.int (0 : Int32))) (P2 : u3.length < 100) :
    MF l Z mq42 (Jvm.Cond.code mq42 jdk_52_method_6_code 1 (some .int)) ws rq0 #[(.ref u1)] h0 (Q50_59 Z u1 u2 u3 h0 n0) := by
  refine own_enter (plainFor_of_name pn_0) fun p e s m below meth c s₁ X0 hx hby hml hown hnm hZ e0 hre hlk => ?_
  have N0 := Fr.nil n0
  have pre0 : ∀ t, SF p e below s₁ (mkF m 0 #[rv u1] []) t → SF p e below s₁ (entryFrame m #[(.ref u1)] 1) t := fun t k => castTop (ef_2 m u1) k
  obtain ⟨cl1, Ar1, q1, S1, N1z, H1, G1⟩ := id P1
  obtain ⟨fs, hr, hrun, hended, hW, hsame⟩ := X0.leave (v := some (.int (Int32.ofNat u3.length))) (fun h => by rw [hre] at h; cases h)
  refine ⟨_, _, pre0 _ ?_, hrun, hended, _, _, rfl, ?_, ⟨_, rfl⟩, hW, hsame.mono (by decide) (by decide)⟩
  · show SF p e below s₁ (mkF m 0 #[rv u1] []) _
    refine XS.aloadN X0.here hx rfl (hb hby d50_0) rfl rfl ?_
    refine X0.arraylength hx (by rw [e0]; exact Ar1.1) (State.isArrayOf_alike hZ.alike Ar1.2.1) (g := (mkF m 1 #[rv u1] [(.ref u1)])) rfl rfl (hb hby d50_1) _ ?_
    rw [len_of S1 N1z]
    refine XS.iconst X0.here hx rfl (hb hby d50_2) ?_
    refine XS.ishr X0.here hx rfl (hb hby d50_3) rfl ?_
    show SF p e below s₁ (mkF m 4 #[rv u1] [(.int ((Int32.ofNat (2 * u3.length)) >>> ((1 : Int32) &&& 31)))]) _
    rw [(show ((Int32.ofNat (2 * u3.length)) >>> ((1 : Int32) &&& 31)) = (Int32.ofNat u3.length) from StrChars.shr1 (own_b31 P2))]
    exact retI X0 hx hre (hb hby d50_4) hr
  · show Q50_59 Z u1 u2 u3 h0 n0 _ s₁.heap _
    rw [e0]
    exact ⟨rfl, N0, rfl⟩
def Q17_60 (Z : State) (u1 : Nat) (u2 : List Int32) (GF : Value) (h0 : Heap) (n0 : Nat) (v : Option Value) (h : Heap) (L : List Loc) : Prop := v = some (.int (Int32.ofNat u1)) ∧ Fr n0 L ∧ h = h0
theorem rm17_60 (l : Launch) (Z : State) (a0 : Array Value) (hw : HW Z a0) (ws : List Jvm.Cond) (u1 : Nat) (u2 : List Int32) (GF : Value) (h0 : Heap) (n0 : Nat) (Z0 : n0 ≤ h0.size) (P1 : ¬ ((Int32.ofNat u1) < (0 : Int32))) (P2 : (Int32.ofNat u1) < (Int32.ofNat u2.length)) (rGF : GF.isRef = true) :
    MF l Z mq54 (Jvm.Cond.code mq54 jdk_41_method_11_code 3 (some .int)) ws rq0 #[(.int (Int32.ofNat u1)), (.int (Int32.ofNat u2.length)), GF] h0 (Q17_60 Z u1 u2 GF h0 n0) := by
  refine own_enter (plainFor_of_name pn_1) fun p e s m below meth c s₁ X0 hx hby hml hown hnm hZ e0 hre hlk => ?_
  have N0 := Fr.nil n0
  have pre0 : ∀ t, SF p e below s₁ (mkF m 0 #[iv (Int32.ofNat u1), iv (Int32.ofNat u2.length), .val GF] []) t → SF p e below s₁ (entryFrame m #[(.int (Int32.ofNat u1)), (.int (Int32.ofNat u2.length)), GF] 3) t := fun t k => castTop (ef_17 m (Int32.ofNat u1) (Int32.ofNat u2.length) GF rGF) k
  obtain ⟨fs, hr, hrun, hended, hW, hsame⟩ := X0.leave (v := some (.int (Int32.ofNat u1))) (fun h => by rw [hre] at h; cases h)
  refine ⟨_, _, pre0 _ ?_, hrun, hended, _, _, rfl, ?_, ⟨_, rfl⟩, hW, hsame.mono (by decide) (by decide)⟩
  · show SF p e below s₁ (mkF m 0 #[iv (Int32.ofNat u1), iv (Int32.ofNat u2.length), .val GF] []) _
    refine XS.iloadN X0.here hx rfl (hb hby d17_0) rfl ?_
    refine XS.ifNo X0.here hx rfl (hb hby d17_1) rfl ((if0 _ _).trans (flt P1).1) ?_
    refine XS.iloadN X0.here hx rfl (hb hby d17_4) rfl ?_
    refine XS.iloadN X0.here hx rfl (hb hby d17_5) rfl ?_
    refine XS.icmpYes X0.here hx rfl (pc0 := 6) (pc' := 16) rfl (hb hby d17_6) rfl (tlt P2).1 (by decide) (by decide) ?_
    refine XS.iloadN X0.here hx rfl (hb hby d17_16) rfl ?_
    exact retI X0 hx hre (hb hby d17_17) hr
  · show Q17_60 Z u1 u2 GF h0 n0 _ s₁.heap _
    rw [e0]
    exact ⟨rfl, N0, rfl⟩
def Q16_61 (Z : State) (u1 : Nat) (u2 : List Int32) (GF : Value) (h0 : Heap) (n0 : Nat) (v : Option Value) (h : Heap) (L : List Loc) : Prop := v = none ∧ Fr n0 L ∧ h = h0
theorem rm16_61 (l : Launch) (Z : State) (a0 : Array Value) (hw : HW Z a0) (ws : List Jvm.Cond) (u1 : Nat) (u2 : List Int32) (GF : Value) (h0 : Heap) (n0 : Nat) (Z0 : n0 ≤ h0.size) (Sg1 : Sta Z Z.heap sq6 "SIOOBE_FORMATTER" "Ljava/util/function/BiFunction;" GF) (P2 : Old Z n0 h0) (P3 : ¬ ((Int32.ofNat u1) < (0 : Int32))) (P4 : (Int32.ofNat u1) < (Int32.ofNat u2.length)) (rGF : GF.isRef = true) :
    MF l Z mq22 (Jvm.Cond.code mq22 jdk_42_method_155_code 2 none) ws rq4 #[(.int (Int32.ofNat u1)), (.int (Int32.ofNat u2.length))] h0 (Q16_61 Z u1 u2 GF h0 n0) := by
  refine own_enter (plainFor_of_name pn_2) fun p e s m below meth c s₁ X0 hx hby hml hown hnm hZ e0 hre hlk => ?_
  have N0 := Fr.nil n0
  have pre0 : ∀ t, SF p e below s₁ (mkF m 0 #[iv (Int32.ofNat u1), iv (Int32.ofNat u2.length)] []) t → SF p e below s₁ (entryFrame m #[(.int (Int32.ofNat u1)), (.int (Int32.ofNat u2.length))] 2) t := fun t k => castTop (ef_18 m (Int32.ofNat u1) (Int32.ofNat u2.length)) k
  obtain ⟨T1, X1, e1, st1⟩ := getS2 X0 hx hZ hown (host := "") (Or.inl (tw hw 83 rfl)) Via.refl e0 (Sg1.ext P2.2) (g := (mkF m 2 #[iv (Int32.ofNat u1), iv (Int32.ofNat u2.length)] [(.int (Int32.ofNat u2.length)), (.int (Int32.ofNat u1))])) rfl (hb hby d16_2)
  obtain ⟨_, _, ⟨T2, L2, k2x, n2⟩, -, X2, ⟨Lc2, hQ2, l2, y2, z2⟩, st2⟩ := Jvm.LawKit.callS X1 hx (y := mq54) hown (mvT hZ (tw hw 85 rfl)) (mvT hZ (tw hw 86 rfl)) (mvT hZ (tw hw 84 rfl)) (mvT hZ (tw hw 87 rfl)) (by decide) (backOf (W := 0) (rm17_60 l Z a0 hw [] u1 u2 GF h0 n0 Z0 P3 P4 rGF) hZ (tw hw 87 rfl) (tw hw 84 rfl) (by decide) (by decide)) (g := (mkF m 5 #[iv (Int32.ofNat u1), iv (Int32.ofNat u2.length)] [GF, (.int (Int32.ofNat u2.length)), (.int (Int32.ofNat u1))])) rfl (by rw [hml]; rfl) (argsL := [(.int (Int32.ofNat u1)), (.int (Int32.ofNat u2.length)), GF]) (rest := []) (lenOf pd_11 rfl) rfl (Nat.le_of_eq rfl) (hb hby d16_5) (fun _ _ => ⟨rfl, e1, (by decide : 0 + 0 ≤ _), (by decide : 0 + 0 ≤ _)⟩)
  dsimp only [Pt.U, Pt.locs, Pt.cells, Pt.slots] at X2 l2 y2 z2 st2 hQ2
  subst l2 y2 z2
  obtain ⟨rfl, N2q, e2⟩ := hQ2
  have N2 := Fr.app N0 N2q
  obtain ⟨fs, hr, hrun, hended, hW, hsame⟩ := X2.leave (v := none) (fun _ => rfl)
  refine ⟨_, _, pre0 _ ?_, hrun, hended, _, _, rfl, ?_, ⟨_, rfl⟩, hW, hsame.mono (by decide) (by decide)⟩
  · show SF p e below s₁ (mkF m 0 #[iv (Int32.ofNat u1), iv (Int32.ofNat u2.length)] []) _
    refine XS.iloadN X0.here hx rfl (hb hby d16_0) rfl ?_
    refine XS.iloadN X0.here hx rfl (hb hby d16_1) rfl ?_
    refine st1 _ ?_
    refine st2 _ ?_
    refine XS.pop X2.here hx rfl (hb hby d16_8) rfl rfl ?_
    exact X2.returnOut hx hre (hb hby d16_9) hr
  · show Q16_61 Z u1 u2 GF h0 n0 _ T2.heap _
    rw [e2]
    exact ⟨rfl, N2, rfl⟩
def Q49_62 (Z : State) (u1 : Nat) (u2 : Addr) (u3 : ClassId) (u4 : List Int32) (GF : Value) (h0 : Heap) (n0 : Nat) (v : Option Value) (h : Heap) (L : List Loc) : Prop := v = none ∧ Fr n0 L ∧ h = h0
theorem rm49_62 (l : Launch) (Z : State) (a0 : Array Value) (hw : HW Z a0) (ws : List Jvm.Cond) (u1 : Nat) (u2 : Addr) (u3 : ClassId) (u4 : List Int32) (GF : Value) (h0 : Heap) (n0 : Nat) (Z0 : n0 ≤ h0.size) (P1 : Arv Z h0 u2 u3 .byte (Int32.ofNat (2 * u4.length)) (own_wd u4) (.int (0 : Int32))) (P2 : u4.length < 100) (Sg1 : Sta Z Z.heap sq6 "SIOOBE_FORMATTER" "Ljava/util/function/BiFunction;" GF) (P4 : Old Z n0 h0) (P5 : ¬ ((Int32.ofNat u1) < (0 : Int32))) (P6 : (Int32.ofNat u1) < (Int32.ofNat u4.length)) (rGF : GF.isRef = true) :
    MF l Z mq36 (Jvm.Cond.code mq36 jdk_52_method_91_code 2 none) ws rq8 #[(.int (Int32.ofNat u1)), (.ref u2)] h0 (Q49_62 Z u1 u2 u3 u4 GF h0 n0) := by
  refine own_enter (plainFor_of_name pn_0) fun p e s m below meth c s₁ X0 hx hby hml hown hnm hZ e0 hre hlk => ?_
  have N0 := Fr.nil n0
  have pre0 : ∀ t, SF p e below s₁ (mkF m 0 #[iv (Int32.ofNat u1), rv u2] []) t → SF p e below s₁ (entryFrame m #[(.int (Int32.ofNat u1)), (.ref u2)] 2) t := fun t k => castTop (ef_19 m (Int32.ofNat u1) u2) k
  obtain ⟨_, _, ⟨T1, L1, k1x, n1⟩, -, X1, ⟨Lc1, hQ1, l1, y1, z1⟩, st1⟩ := Jvm.LawKit.callS X0 hx (y := mq42) hown (mvT hZ (tw hw 246 rfl)) (mvT hZ (tw hw 247 rfl)) (mvT hZ (tw hw 21 rfl)) (mvT hZ (tw hw 248 rfl)) (by decide) (backOf (W := 1) (rm50_59 l Z a0 hw [] u2 u3 u4 h0 n0 Z0 P1 P2) hZ (tw hw 248 rfl) (tw hw 21 rfl) (by decide) (by decide)) (g := (mkF m 2 #[iv (Int32.ofNat u1), rv u2] [(.ref u2), (.int (Int32.ofNat u1))])) rfl (by rw [hml]; rfl) (argsL := [(.ref u2)]) (rest := [(.int (Int32.ofNat u1))]) (lenOf pd_1 rfl) rfl (Nat.le_of_eq rfl) (hb hby d49_2) (fun _ _ => ⟨rfl, e0, (by decide : 0 + 0 ≤ _), (by decide : 0 + 0 ≤ _)⟩)
  dsimp only [Pt.U, Pt.locs, Pt.cells, Pt.slots] at X1 l1 y1 z1 st1 hQ1
  subst l1 y1 z1
  obtain ⟨rfl, N1q, e1⟩ := hQ1
  have N1 := Fr.app N0 N1q
  obtain ⟨_, _, ⟨T2, L2, k2x, n2⟩, -, X2, ⟨Lc2, hQ2, l2, y2, z2⟩, st2⟩ := Jvm.LawKit.callS X1 hx (y := mq22) hown (mvT hZ (tw hw 249 rfl)) (mvT hZ (tw hw 81 rfl)) (mvT hZ (tw hw 6 rfl)) (mvT hZ (tw hw 82 rfl)) (by decide) (backOf (W := 0) (rm16_61 l Z a0 hw [] u1 u4 GF h0 n0 Z0 Sg1 P4 P5 P6 rGF) hZ (tw hw 82 rfl) (tw hw 6 rfl) (by decide) (by decide)) (g := (mkF m 5 #[iv (Int32.ofNat u1), rv u2] [(.int (Int32.ofNat u4.length)), (.int (Int32.ofNat u1))])) rfl (by rw [hml]; rfl) (argsL := [(.int (Int32.ofNat u1)), (.int (Int32.ofNat u4.length))]) (rest := []) (lenOf pd_12 rfl) rfl (Nat.le_of_eq rfl) (hb hby d49_5) (fun _ _ => ⟨rfl, e1, (by decide : 0 + 0 ≤ _), (by decide : 0 + 0 ≤ _)⟩)
  dsimp only [Pt.U, Pt.locs, Pt.cells, Pt.slots] at X2 l2 y2 z2 st2 hQ2
  subst l2 y2 z2
  obtain ⟨rfl, N2q, e2⟩ := hQ2
  have N2 := Fr.app N1 N2q
  obtain ⟨fs, hr, hrun, hended, hW, hsame⟩ := X2.leave (v := none) (fun _ => rfl)
  refine ⟨_, _, pre0 _ ?_, hrun, hended, _, _, rfl, ?_, ⟨_, rfl⟩, hW, hsame.mono (by decide) (by decide)⟩
  · show SF p e below s₁ (mkF m 0 #[iv (Int32.ofNat u1), rv u2] []) _
    refine XS.iloadN X0.here hx rfl (hb hby d49_0) rfl ?_
    refine XS.aloadN X0.here hx rfl (hb hby d49_1) rfl rfl ?_
    refine st1 _ ?_
    refine st2 _ ?_
    exact X2.returnOut hx hre (hb hby d49_8) hr
  · show Q49_62 Z u1 u2 u3 u4 GF h0 n0 _ T2.heap _
    rw [e2]
    exact ⟨rfl, N2, rfl⟩
theorem d48_5 : D48 5 (.aload_n 0) 1 := by decide +kernel
theorem d48_6 : D48 6 (.iload_n 1) 1 := by decide +kernel
theorem d48_7 : D48 7 (.invokestatic 71) 3 := by decide +kernel
abbrev D47 (n : Nat) (i : Instr) (k : Nat) : Prop := decode jdk_52_method_5_code n = .ok (i, k)
theorem d47_0 : D47 0 (.getstatic 44) 3 := by decide +kernel
theorem d47_3 : D47 3 (.ifCond .ne 25) 3 := by decide +kernel
theorem d47_28 : D47 28 (.iload_n 1) 1 := by decide +kernel
theorem d47_29 : D47 29 (.iconst 1) 1 := by decide +kernel
theorem d47_30 : D47 30 (.ishl) 1 := by decide +kernel
theorem d47_31 : D47 31 (.istore_n 1) 1 := by decide +kernel
theorem d47_32 : D47 32 (.aload_n 0) 1 := by decide +kernel
theorem d47_33 : D47 33 (.iload_n 1) 1 := by decide +kernel
theorem d47_34 : D47 34 (.iinc 1 1) 3 := by decide +kernel
theorem d47_37 : D47 37 (.baload) 1 := by decide +kernel
theorem d47_38 : D47 38 (.sipush 255) 3 := by decide +kernel
theorem d47_41 : D47 41 (.iand) 1 := by decide +kernel
theorem d47_42 : D47 42 (.getstatic 59) 3 := by decide +kernel
theorem d47_45 : D47 45 (.ishl) 1 := by decide +kernel
theorem d47_46 : D47 46 (.aload_n 0) 1 := by decide +kernel
theorem d47_47 : D47 47 (.iload_n 1) 1 := by decide +kernel
theorem d47_48 : D47 48 (.baload) 1 := by decide +kernel
theorem d47_49 : D47 49 (.sipush 255) 3 := by decide +kernel
theorem d47_52 : D47 52 (.iand) 1 := by decide +kernel
theorem d47_53 : D47 53 (.getstatic 63) 3 := by decide +kernel
theorem d47_56 : D47 56 (.ishl) 1 := by decide +kernel
theorem d47_57 : D47 57 (.ior) 1 := by decide +kernel
theorem d47_58 : D47 58 (.i2c) 1 := by decide +kernel
theorem d47_59 : D47 59 (.ireturn) 1 := by decide +kernel
theorem ef_43 (m : MethodId) (x0 : Addr) (x1 : Int32) : entryFrame m #[(.ref x0), (.int x1)] 2 = mkF m 0 #[.val (.ref x0), .val (.int x1)] [] := by first | (simp [entryFrame, mkF, argsToLocals, Value.category]; done) | rfl
def Q47_63 (Z : State) (u1 : Addr) (u2 : Nat) (u3 : ClassId) (u4 : List Int32) (u5 : Int32) (u6 : Int32) (h0 : Heap) (n0 : Nat) (v : Option Value) (h : Heap) (L : List Loc) : Prop := v = some (.int (nar .char ((((u5 &&& (255 : Int32)) <<< ((0 : Int32) &&& 31)) ||| ((u6 &&& (255 : Int32)) <<< ((8 : Int32) &&& 31))).toUInt32.toUInt16.toUInt32.toInt32))) ∧ Fr n0 L ∧ h = h0
theorem rm47_63 (l : Launch) (Z : State) (a0 : Array Value) (hw : HW Z a0) (ws : List Jvm.Cond) (u1 : Addr) (u2 : Nat) (u3 : ClassId) (u4 : List Int32) (u5 : Int32) (u6 : Int32) (h0 : Heap) (n0 : Nat) (Z0 : n0 ≤ h0.size) (Sg4 : Sta Z Z.heap sq5 "$assertionsDisabled" "Z" (.int 1)) (P2 : Old Z n0 h0) (P3 : Arv Z h0 u1 u3 .byte (Int32.ofNat (2 * u4.length)) (own_wd u4) (.int (0 : Int32))) (P4 : ¬ (Int32.ofNat (2 * u2)) < 0 ∧ (Int32.ofNat (2 * u2)) < (Int32.ofNat (2 * u4.length))) (P5 : (own_wd u4).getD ((Int32.ofNat (2 * u2))).toNatClampNeg (.int 0) = (.int u5)) (Sg5 : Sta Z Z.heap sq5 "HI_BYTE_SHIFT" "I" (.int 0)) (P7 : ¬ ((Int32.ofNat (2 * u2)) + (1 : Int32)) < 0 ∧ ((Int32.ofNat (2 * u2)) + (1 : Int32)) < (Int32.ofNat (2 * u4.length))) (P8 : (own_wd u4).getD (((Int32.ofNat (2 * u2)) + (1 : Int32))).toNatClampNeg (.int 0) = (.int u6)) (Sg6 : Sta Z Z.heap sq5 "LO_BYTE_SHIFT" "I" (.int 8)) :
    MF l Z mq40 (Jvm.Cond.code mq40 jdk_52_method_5_code 2 (some .char)) ws rq0 #[(.ref u1), (.int (Int32.ofNat u2))] h0 (Q47_63 Z u1 u2 u3 u4 u5 u6 h0 n0) := by
  refine own_enter (plainFor_of_name pn_0) fun p e s m below meth c s₁ X0 hx hby hml hown hnm hZ e0 hre hlk => ?_
  have N0 := Fr.nil n0
  have pre0 : ∀ t, SF p e below s₁ (mkF m 0 #[rv u1, iv (Int32.ofNat u2)] []) t → SF p e below s₁ (entryFrame m #[(.ref u1), (.int (Int32.ofNat u2))] 2) t := fun t k => castTop (ef_43 m u1 (Int32.ofNat u2)) k
  obtain ⟨T1, X1, e1, st1⟩ := getS2 X0 hx hZ hown (host := "") (Or.inl (tw hw 234 rfl)) Via.refl e0 (Sg4.ext P2.2) (g := (mkF m 0 #[rv u1, iv (Int32.ofNat u2)] [])) rfl (hb hby d47_0)
  obtain ⟨cl2, Ar2, q2, S2, N2z, H2, G2⟩ := id P3
  have hin2 : ¬ ((Int32.ofNat (2 * u2)) < 0 ∨ cl2.slots.size ≤ ((Int32.ofNat (2 * u2))).toNatClampNeg) := inb_of S2 P4
  have hat2 : cl2.slots[((Int32.ofNat (2 * u2))).toNatClampNeg]? = some (.int u5) := Has.at H2 hin2 P5
  obtain ⟨T3, X3, e3, st3⟩ := getS2 X1 hx hZ hown (host := "") (Or.inl (tw hw 235 rfl)) Via.refl e1 (Sg5.ext P2.2) (g := (mkF m 42 #[rv u1, iv ((Int32.ofNat (2 * u2)) + (1 : Int32))] [(.int (u5 &&& (255 : Int32)))])) rfl (hb hby d47_42)
  obtain ⟨cl4, Ar4, q4, S4, N4z, H4, G4⟩ := id P3
  have hin4 : ¬ (((Int32.ofNat (2 * u2)) + (1 : Int32)) < 0 ∨ cl4.slots.size ≤ (((Int32.ofNat (2 * u2)) + (1 : Int32))).toNatClampNeg) := inb_of S4 P7
  have hat4 : cl4.slots[(((Int32.ofNat (2 * u2)) + (1 : Int32))).toNatClampNeg]? = some (.int u6) := Has.at H4 hin4 P8
  obtain ⟨T5, X5, e5, st5⟩ := getS2 X3 hx hZ hown (host := "") (Or.inl (tw hw 236 rfl)) Via.refl e3 (Sg6.ext P2.2) (g := (mkF m 53 #[rv u1, iv ((Int32.ofNat (2 * u2)) + (1 : Int32))] [(.int (u6 &&& (255 : Int32))), (.int ((u5 &&& (255 : Int32)) <<< ((0 : Int32) &&& 31)))])) rfl (hb hby d47_53)
  obtain ⟨fs, hr, hrun, hended, hW, hsame⟩ := X5.leave (v := some (.int (nar .char ((((u5 &&& (255 : Int32)) <<< ((0 : Int32) &&& 31)) ||| ((u6 &&& (255 : Int32)) <<< ((8 : Int32) &&& 31))).toUInt32.toUInt16.toUInt32.toInt32)))) (fun h => by rw [hre] at h; cases h)
  refine ⟨_, _, pre0 _ ?_, hrun, hended, _, _, rfl, ?_, ⟨_, rfl⟩, hW, hsame.mono (by decide) (by decide)⟩
  · show SF p e below s₁ (mkF m 0 #[rv u1, iv (Int32.ofNat u2)] []) _
    refine st1 _ ?_
    refine XS.ifYes X1.here hx rfl (pc0 := 3) (pc' := 28) rfl (hb hby d47_3) rfl ((if0 _ _).trans (feq (by decide : ¬ ((1 : Int32) = (0 : Int32)))).2) (by decide) (by decide) ?_
    refine XS.iloadN X1.here hx rfl (hb hby d47_28) rfl ?_
    refine XS.iconst X1.here hx rfl (hb hby d47_29) ?_
    refine XS.ishl X1.here hx rfl (hb hby d47_30) rfl ?_
    show SF p e below T1 (mkF m 31 #[rv u1, iv (Int32.ofNat u2)] [(.int ((Int32.ofNat u2) <<< ((1 : Int32) &&& 31)))]) _
    rw [(show ((Int32.ofNat u2) <<< ((1 : Int32) &&& 31)) = (Int32.ofNat (2 * u2)) from own_shl1 _)]
    refine XS.istoreN X1.here hx rfl (hb hby d47_31) rfl (l' := #[rv u1, iv (Int32.ofNat (2 * u2))]) rfl ?_
    refine XS.aloadN X1.here hx rfl (hb hby d47_32) rfl rfl ?_
    refine XS.iloadN X1.here hx rfl (hb hby d47_33) rfl ?_
    refine XS.iinc X1.here hx rfl (hb hby d47_34) rfl (l' := #[rv u1, iv ((Int32.ofNat (2 * u2)) + (1 : Int32))]) rfl ?_
    refine X1.baloadBytes hx (j := (Int32.ofNat (2 * u2))) (v := (.int u5)) (by rw [e1]; exact Ar2.1) (State.isArrayOf_alike hZ.alike Ar2.2.1) Ar2.2.2 hin2 hat2 (g := (mkF m 37 #[rv u1, iv ((Int32.ofNat (2 * u2)) + (1 : Int32))] [(.int (Int32.ofNat (2 * u2))), (.ref u1)])) rfl rfl (hb hby d47_37) _ ?_
    refine XS.sipush X1.here hx rfl (hb hby d47_38) ?_
    refine XS.iand X1.here hx rfl (hb hby d47_41) rfl ?_
    refine st3 _ ?_
    refine XS.ishl X3.here hx rfl (hb hby d47_45) rfl ?_
    refine XS.aloadN X3.here hx rfl (hb hby d47_46) rfl rfl ?_
    refine XS.iloadN X3.here hx rfl (hb hby d47_47) rfl ?_
    refine X3.baloadBytes hx (j := ((Int32.ofNat (2 * u2)) + (1 : Int32))) (v := (.int u6)) (by rw [e3]; exact Ar4.1) (State.isArrayOf_alike hZ.alike Ar4.2.1) Ar4.2.2 hin4 hat4 (g := (mkF m 48 #[rv u1, iv ((Int32.ofNat (2 * u2)) + (1 : Int32))] [(.int ((Int32.ofNat (2 * u2)) + (1 : Int32))), (.ref u1), (.int ((u5 &&& (255 : Int32)) <<< ((0 : Int32) &&& 31)))])) rfl rfl (hb hby d47_48) _ ?_
    refine XS.sipush X3.here hx rfl (hb hby d47_49) ?_
    refine XS.iand X3.here hx rfl (hb hby d47_52) rfl ?_
    refine st5 _ ?_
    refine XS.ishl X5.here hx rfl (hb hby d47_56) rfl ?_
    refine XS.ior X5.here hx rfl (hb hby d47_57) rfl ?_
    refine XS.i2c X5.here hx rfl (hb hby d47_58) rfl ?_
    exact retN X5 hx (t := .char) hre (by simp) (hb hby d47_59) hr
  · show Q47_63 Z u1 u2 u3 u4 u5 u6 h0 n0 _ T5.heap _
    rw [e5]
    exact ⟨rfl, N0, rfl⟩
theorem pd_28 : parseMethodDescriptor "([BI)C" = some ⟨[(.array .byte), .int], some .char⟩ := by decide +kernel
theorem d48_10 : D48 10 (.ireturn) 1 := by decide +kernel
theorem ef_44 (m : MethodId) (x0 : Addr) (x1 : Int32) : entryFrame m #[(.ref x0), (.int x1)] 2 = mkF m 0 #[.val (.ref x0), .val (.int x1)] [] := by first | (simp [entryFrame, mkF, argsToLocals, Value.category]; done) | rfl
def Q48_64 (Z : State) (u1 : Addr) (u2 : Nat) (u3 : ClassId) (u4 : List Int32) (GF : Value) (u5 : Int32) (u6 : Int32) (h0 : Heap) (n0 : Nat) (v : Option Value) (h : Heap) (L : List Loc) : Prop := v = some (.int (nar .char (nar .char ((((u5 &&& (255 : Int32)) <<< ((0 : Int32) &&& 31)) ||| ((u6 &&& (255 : Int32)) <<< ((8 : Int32) &&& 31))).toUInt32.toUInt16.toUInt32.toInt32)))) ∧ Fr n0 L ∧ h = h0
theorem rm48_64 (l : Launch) (Z : State) (a0 : Array Value) (hw : HW Z a0) (ws : List Jvm.Cond) (u1 : Addr) (u2 : Nat) (u3 : ClassId) (u4 : List Int32) (GF : Value) (u5 : Int32) (u6 : Int32) (h0 : Heap) (n0 : Nat) (Z0 : n0 ≤ h0.size) (P1 : Arv Z h0 u1 u3 .byte (Int32.ofNat (2 * u4.length)) (own_wd u4) (.int (0 : Int32))) (P2 : u4.length < 100) (Sg1 : Sta Z Z.heap sq6 "SIOOBE_FORMATTER" "Ljava/util/function/BiFunction;" GF) (P4 : Old Z n0 h0) (P5 : ¬ ((Int32.ofNat u2) < (0 : Int32))) (P6 : (Int32.ofNat u2) < (Int32.ofNat u4.length)) (rGF : GF.isRef = true) (Sg4 : Sta Z Z.heap sq5 "$assertionsDisabled" "Z" (.int 1)) (P9 : ¬ (Int32.ofNat (2 * u2)) < 0 ∧ (Int32.ofNat (2 * u2)) < (Int32.ofNat (2 * u4.length))) (P10 : (own_wd u4).getD ((Int32.ofNat (2 * u2))).toNatClampNeg (.int 0) = (.int u5)) (Sg5 : Sta Z Z.heap sq5 "HI_BYTE_SHIFT" "I" (.int 0)) (P12 : ¬ ((Int32.ofNat (2 * u2)) + (1 : Int32)) < 0 ∧ ((Int32.ofNat (2 * u2)) + (1 : Int32)) < (Int32.ofNat (2 * u4.length))) (P13 : (own_wd u4).getD (((Int32.ofNat (2 * u2)) + (1 : Int32))).toNatClampNeg (.int 0) = (.int u6)) (Sg6 : Sta Z Z.heap sq5 "LO_BYTE_SHIFT" "I" (.int 8)) :
    MF l Z mq34 (Jvm.Cond.code mq34 jdk_52_method_83_code 2 (some .char)) ws rq11 #[(.ref u1), (.int (Int32.ofNat u2))] h0 (Q48_64 Z u1 u2 u3 u4 GF u5 u6 h0 n0) := by
  refine own_enter (plainFor_of_name pn_0) fun p e s m below meth c s₁ X0 hx hby hml hown hnm hZ e0 hre hlk => ?_
  have N0 := Fr.nil n0
  have pre0 : ∀ t, SF p e below s₁ (mkF m 0 #[rv u1, iv (Int32.ofNat u2)] []) t → SF p e below s₁ (entryFrame m #[(.ref u1), (.int (Int32.ofNat u2))] 2) t := fun t k => castTop (ef_44 m u1 (Int32.ofNat u2)) k
  obtain ⟨_, _, ⟨T1, L1, k1x, n1⟩, -, X1, ⟨Lc1, hQ1, l1, y1, z1⟩, st1⟩ := Jvm.LawKit.callS X0 hx (y := mq36) hown (mvT hZ (tw hw 243 rfl)) (mvT hZ (tw hw 244 rfl)) (mvT hZ (tw hw 21 rfl)) (mvT hZ (tw hw 245 rfl)) (by decide) (backOf (W := 0) (rm49_62 l Z a0 hw [] u2 u1 u3 u4 GF h0 n0 Z0 P1 P2 Sg1 P4 P5 P6 rGF) hZ (tw hw 245 rfl) (tw hw 21 rfl) (by decide) (by decide)) (g := (mkF m 2 #[rv u1, iv (Int32.ofNat u2)] [(.ref u1), (.int (Int32.ofNat u2))])) rfl (by rw [hml]; rfl) (argsL := [(.int (Int32.ofNat u2)), (.ref u1)]) (rest := []) (lenOf pd_13 rfl) rfl (Nat.le_of_eq rfl) (hb hby d48_2) (fun _ _ => ⟨rfl, e0, (by decide : 0 + 0 ≤ _), (by decide : 0 + 0 ≤ _)⟩)
  dsimp only [Pt.U, Pt.locs, Pt.cells, Pt.slots] at X1 l1 y1 z1 st1 hQ1
  subst l1 y1 z1
  obtain ⟨rfl, N1q, e1⟩ := hQ1
  have N1 := Fr.app N0 N1q
  obtain ⟨_, _, ⟨T2, L2, k2x, n2⟩, -, X2, ⟨Lc2, hQ2, l2, y2, z2⟩, st2⟩ := Jvm.LawKit.callS X1 hx (y := mq40) hown (mvT hZ (tw hw 237 rfl)) (mvT hZ (tw hw 238 rfl)) (mvT hZ (tw hw 21 rfl)) (mvT hZ (tw hw 239 rfl)) (by decide) (backOf (W := 0) (rm47_63 l Z a0 hw [] u1 u2 u3 u4 u5 u6 h0 n0 Z0 Sg4 P4 P1 P9 P10 Sg5 P12 P13 Sg6) hZ (tw hw 239 rfl) (tw hw 21 rfl) (by decide) (by decide)) (g := (mkF m 7 #[rv u1, iv (Int32.ofNat u2)] [(.int (Int32.ofNat u2)), (.ref u1)])) rfl (by rw [hml]; rfl) (argsL := [(.ref u1), (.int (Int32.ofNat u2))]) (rest := []) (lenOf pd_28 rfl) rfl (Nat.le_of_eq rfl) (hb hby d48_7) (fun _ _ => ⟨rfl, e1, (by decide : 0 + 0 ≤ _), (by decide : 0 + 0 ≤ _)⟩)
  dsimp only [Pt.U, Pt.locs, Pt.cells, Pt.slots] at X2 l2 y2 z2 st2 hQ2
  subst l2 y2 z2
  obtain ⟨rfl, N2q, e2⟩ := hQ2
  have N2 := Fr.app N1 N2q
  obtain ⟨fs, hr, hrun, hended, hW, hsame⟩ := X2.leave (v := some (.int (nar .char (nar .char ((((u5 &&& (255 : Int32)) <<< ((0 : Int32) &&& 31)) ||| ((u6 &&& (255 : Int32)) <<< ((8 : Int32) &&& 31))).toUInt32.toUInt16.toUInt32.toInt32))))) (fun h => by rw [hre] at h; cases h)
  refine ⟨_, _, pre0 _ ?_, hrun, hended, _, _, rfl, ?_, ⟨_, rfl⟩, hW, hsame.mono (by decide) (by decide)⟩
  · show SF p e below s₁ (mkF m 0 #[rv u1, iv (Int32.ofNat u2)] []) _
    refine XS.iloadN X0.here hx rfl (hb hby d48_0) rfl ?_
    refine XS.aloadN X0.here hx rfl (hb hby d48_1) rfl rfl ?_
    refine st1 _ ?_
    refine XS.aloadN X1.here hx rfl (hb hby d48_5) rfl rfl ?_
    refine XS.iloadN X1.here hx rfl (hb hby d48_6) rfl ?_
    refine st2 _ ?_
    exact retN X2 hx (t := .char) hre (by simp) (hb hby d48_10) hr
  · show Q48_64 Z u1 u2 u3 u4 GF u5 u6 h0 n0 _ T2.heap _
    rw [e2]
    exact ⟨rfl, N2, rfl⟩
theorem d13_24 : D13 24 (.ireturn) 1 := by decide +kernel
theorem ef_45 (m : MethodId) (x0 : Addr) (x1 : Int32) : entryFrame m #[(.ref x0), (.int x1)] 2 = mkF m 0 #[.val (.ref x0), .val (.int x1)] [] := by first | (simp [entryFrame, mkF, argsToLocals, Value.category]; done) | rfl
def Q13_65 (Z : State) (u1 : Addr) (u2 : Nat) (GC : Int32) (u3 : Addr) (u4 : ClassId) (u5 : List Int32) (GF : Value) (u6 : Int32) (u7 : Int32) (h0 : Heap) (n0 : Nat) (v : Option Value) (h : Heap) (L : List Loc) : Prop := v = some (.int (nar .char (nar .char (nar .char ((((u6 &&& (255 : Int32)) <<< ((0 : Int32) &&& 31)) ||| ((u7 &&& (255 : Int32)) <<< ((8 : Int32) &&& 31))).toUInt32.toUInt16.toUInt32.toInt32))))) ∧ Fr n0 L ∧ h = h0
theorem rm13_65 (l : Launch) (Z : State) (a0 : Array Value) (hw : HW Z a0) (ws : List Jvm.Cond) (u1 : Addr) (u2 : Nat) (GC : Int32) (u3 : Addr) (u4 : ClassId) (u5 : List Int32) (GF : Value) (u6 : Int32) (u7 : Int32) (h0 : Heap) (n0 : Nat) (Z0 : n0 ≤ h0.size) (P1 : Exa Z h0 u1 sq3) (Sg0 : Sta Z Z.heap sq3 "COMPACT_STRINGS" "Z" (.int GC)) (P3 : Old Z n0 h0) (nzGC : ¬ (GC = (0 : Int32))) (P5 : Fld Z h0 u1 sq3 "coder" "B" (.int 1)) (P6 : Fld Z h0 u1 sq3 "value" "[B" (.ref u3)) (P7 : Arv Z h0 u3 u4 .byte (Int32.ofNat (2 * u5.length)) (own_wd u5) (.int (0 : Int32))) (P8 : u5.length < 100) (Sg1 : Sta Z Z.heap sq6 "SIOOBE_FORMATTER" "Ljava/util/function/BiFunction;" GF) (P10 : ¬ ((Int32.ofNat u2) < (0 : Int32))) (P11 : (Int32.ofNat u2) < (Int32.ofNat u5.length)) (rGF : GF.isRef = true) (Sg4 : Sta Z Z.heap sq5 "$assertionsDisabled" "Z" (.int 1)) (P14 : ¬ (Int32.ofNat (2 * u2)) < 0 ∧ (Int32.ofNat (2 * u2)) < (Int32.ofNat (2 * u5.length))) (P15 : (own_wd u5).getD ((Int32.ofNat (2 * u2))).toNatClampNeg (.int 0) = (.int u6)) (Sg5 : Sta Z Z.heap sq5 "HI_BYTE_SHIFT" "I" (.int 0)) (P17 : ¬ ((Int32.ofNat (2 * u2)) + (1 : Int32)) < 0 ∧ ((Int32.ofNat (2 * u2)) + (1 : Int32)) < (Int32.ofNat (2 * u5.length))) (P18 : (own_wd u5).getD (((Int32.ofNat (2 * u2)) + (1 : Int32))).toNatClampNeg (.int 0) = (.int u7)) (Sg6 : Sta Z Z.heap sq5 "LO_BYTE_SHIFT" "I" (.int 8)) :
    MF l Z mq20 (Jvm.Cond.code mq20 jdk_42_method_56_code 2 (some .char)) ws ({ frames := 6, cells := 0, slots := 0, locals := 90 } : Room) #[(.ref u1), (.int (Int32.ofNat u2))] h0 (Q13_65 Z u1 u2 GC u3 u4 u5 GF u6 u7 h0 n0) := by
  refine own_enter (plainFor_of_name pn_2) fun p e s m below meth c s₁ X0 hx hby hml hown hnm hZ e0 hre hlk => ?_
  have N0 := Fr.nil n0
  have pre0 : ∀ t, SF p e below s₁ (mkF m 0 #[rv u1, iv (Int32.ofNat u2)] []) t → SF p e below s₁ (entryFrame m #[(.ref u1), (.int (Int32.ofNat u2))] 2) t := fun t k => castTop (ef_45 m u1 (Int32.ofNat u2)) k
  obtain ⟨cq1, kq1, q1a, q1b, q1c⟩ := isOf hZ e0 P1
  obtain ⟨_, _, ⟨T1, L1, k1x, n1⟩, -, X1, ⟨Lc1, hQ1, l1, y1, z1⟩, st1⟩ := X0.virtualBack hx (y := mq25) (z := mq25) hown (mvT hZ (tw hw 71 rfl)) (mvT hZ (tw hw 72 rfl)) (notFace_of_selects (args := #[]) (mvT hZ (tw hw 74 rfl))) (mvT hZ (tw hw 74 rfl)) (mvT hZ (tw hw 73 rfl)) (by decide) (backOf (W := 0) (rm14_58 l Z a0 hw [] u1 GC h0 n0 Z0 Sg0 P3 nzGC P5) hZ (tw hw 75 rfl) (tw hw 6 rfl) (by decide) (by decide)) q1a q1c (g := (mkF m 1 #[rv u1, iv (Int32.ofNat u2)] [(.ref u1)])) rfl (by rw [hml]; rfl) (Steps.refl _) (argsL := []) (rest := []) (lenOf pd_6 rfl) rfl (Nat.le_of_eq rfl) (hb hby d13_1) (fun _ _ => ⟨rfl, e0, (by decide : 0 + 0 ≤ _), (by decide : 0 + 0 ≤ _)⟩)
  dsimp only [Pt.U, Pt.locs, Pt.cells, Pt.slots] at X1 l1 y1 z1 st1 hQ1
  subst l1 y1 z1
  obtain ⟨rfl, N1q, e1⟩ := hQ1
  have N1 := Fr.app N0 N1q
  obtain ⟨T2, X2, e2, st2⟩ := getF X1 hx hZ hown (host := "") (Or.inl (tw hw 32 rfl)) Via.refl e1 P6 (g := (mkF m 17 #[rv u1, iv (Int32.ofNat u2)] [(.ref u1)])) rfl rfl (hb hby d13_17)
  obtain ⟨_, _, ⟨T3, L3, k3x, n3⟩, -, X3, ⟨Lc3, hQ3, l3, y3, z3⟩, st3⟩ := Jvm.LawKit.callS X2 hx (y := mq34) hown (mvT hZ (tw hw 240 rfl)) (mvT hZ (tw hw 241 rfl)) (mvT hZ (tw hw 21 rfl)) (mvT hZ (tw hw 242 rfl)) (by decide) (backOf (W := 0) (rm48_64 l Z a0 hw [] u3 u2 u4 u5 GF u6 u7 h0 n0 Z0 P7 P8 Sg1 P3 P10 P11 rGF Sg4 P14 P15 Sg5 P17 P18 Sg6) hZ (tw hw 242 rfl) (tw hw 21 rfl) (by decide) (by decide)) (g := (mkF m 21 #[rv u1, iv (Int32.ofNat u2)] [(.int (Int32.ofNat u2)), (.ref u3)])) rfl (by rw [hml]; rfl) (argsL := [(.ref u3), (.int (Int32.ofNat u2))]) (rest := []) (lenOf pd_28 rfl) rfl (Nat.le_of_eq rfl) (hb hby d13_21) (fun _ _ => ⟨rfl, e2, (by decide : 0 + 0 ≤ _), (by decide : 0 + 0 ≤ _)⟩)
  dsimp only [Pt.U, Pt.locs, Pt.cells, Pt.slots] at X3 l3 y3 z3 st3 hQ3
  subst l3 y3 z3
  obtain ⟨rfl, N3q, e3⟩ := hQ3
  have N3 := Fr.app N1 N3q
  obtain ⟨fs, hr, hrun, hended, hW, hsame⟩ := X3.leave (v := some (.int (nar .char (nar .char (nar .char ((((u6 &&& (255 : Int32)) <<< ((0 : Int32) &&& 31)) ||| ((u7 &&& (255 : Int32)) <<< ((8 : Int32) &&& 31))).toUInt32.toUInt16.toUInt32.toInt32)))))) (fun h => by rw [hre] at h; cases h)
  refine ⟨_, _, pre0 _ ?_, hrun, hended, _, _, rfl, ?_, ⟨_, rfl⟩, hW, hsame.mono (by decide) (by decide)⟩
  · show SF p e below s₁ (mkF m 0 #[rv u1, iv (Int32.ofNat u2)] []) _
    refine XS.aloadN X0.here hx rfl (hb hby d13_0) rfl rfl ?_
    refine st1.trans ?_
    refine XS.ifYes X1.here hx rfl (pc0 := 4) (pc' := 16) rfl (hb hby d13_4) rfl ((if0 _ _).trans (teq (by decide : (0 : Int32) = (0 : Int32))).1) (by decide) (by decide) ?_
    refine XS.aloadN X1.here hx rfl (hb hby d13_16) rfl rfl ?_
    refine st2 _ ?_
    refine XS.iloadN X2.here hx rfl (hb hby d13_20) rfl ?_
    refine st3 _ ?_
    exact retN X3 hx (t := .char) hre (by simp) (hb hby d13_24) hr
  · show Q13_65 Z u1 u2 GC u3 u4 u5 GF u6 u7 h0 n0 _ T3.heap _
    rw [e3]
    exact ⟨rfl, N3, rfl⟩
theorem own_wordsChN : ∀ d ∈ StrChars.Road.wordsChN, d ∈ tables_1 := by decide +kernel
theorem own_wordsLen : ∀ d ∈ StrChars.Road.wordsLen, d ∈ tables_1 := by decide +kernel
theorem chA {p : Program} {l : Launch} {e : Env} {R : Room} {s : State} {args : Array Value} {below : List Frame} {len W : Nat} {Z : State} {a0 : Array Value} {h : Heap} (hZ : Z.Warmed39 s.vm) (hw : HW Z a0) {GC : Int32} {GF : Value} (S : St Z GC GF) {n0 : Nat} (Z0 : n0 ≤ h.size) (O : Old Z n0 h) {x t : Addr} {cs : List Int32} {i : Nat} (B : Str Z h x t cs) (hb : ∀ c ∈ cs, ¬ c < 0 ∧ ¬ (65535 : Int32) < c) (hk : cs.length < 7) (hi : i < cs.length) {j : Int32} (hj : j = Int32.ofNat i) (hfr : 7 ≤ R.frames) (hlo : W + 103 ≤ R.locals) :
    Back l R p e below s args mq20 len W (fun P a => a = #[.ref x, .int j] ∧ P.U.heap = h ∧ P.cells + 0 ≤ R.cells ∧ P.slots + 0 ≤ R.slots)
      (fun P _ v B => ∃ L, (v = some (.int (cs.getD i 0)) ∧ Fr n0 L ∧ B.U.heap = h) ∧ B.locs = P.locs ++ L ∧ B.cells = P.cells + 0 ∧ B.slots = P.slots + 0) := by
  obtain ⟨k, cd, n, vs, E, V, C, K, hc⟩ := B
  rcases hc with ⟨rfl, rfl, rfl, hl⟩ | ⟨rfl, rfl, rfl, hx⟩
  · exact Back.mono (StrChars.Road.chN (kI := 4) hZ (fun d hd => hw d (own_wordsChN d hd)) (tw hw 5 rfl) E V C K (Or.inl ⟨rfl, rfl, rfl, hl⟩) hb (S.1.ext O.2) S.2.2.2.1 (S.2.1.ext O.2) S.2.2.1 (by omega) hi hj (by omega) (by omega)) (fun _ _ q => q) (fun P a v B _ q => by
      obtain ⟨L, ⟨q1, q2, q3⟩, r⟩ := q
      exact ⟨L, ⟨q1, by rw [q2]; exact Fr.nil _, q3⟩, r⟩)
  · subst hj
    have hci : ¬ cs.getD i 0 < 0 ∧ ¬ (65535 : Int32) < cs.getD i 0 := hb _ (by rw [List.getD_eq_getElem?_getD, List.getElem?_eq_getElem hi]; exact List.getElem_mem _)
    have hM := rm13_65 l Z a0 hw [] x i GC t k cs GF (StrChars.lo8 (cs.getD i 0)) (StrChars.hi8 (cs.getD i 0)) h n0 Z0 E S.1 O S.2.2.2.1 C V K (by omega) S.2.1 (own_all2 7 7 (C := fun q i => (i < q)) (P := fun q i => ¬ ((Int32.ofNat i) < (0 : Int32))) (by decide +kernel) cs.length hk i (by omega) hi) (own_all2 7 7 (C := fun q i => (i < q)) (P := fun q i => (Int32.ofNat i) < (Int32.ofNat q)) (by decide +kernel) cs.length hk i (by omega) hi) S.2.2.1 S.2.2.2.2.1 (own_all2 7 7 (C := fun q i => (i < q)) (P := fun q i => ¬ (Int32.ofNat (2 * i)) < 0 ∧ (Int32.ofNat (2 * i)) < (Int32.ofNat (2 * q))) (by decide +kernel) cs.length hk i (by omega) hi) (own_wd_get0 cs i hi (by omega)) S.2.2.2.2.2.1 (own_all2 7 7 (C := fun q i => (i < q)) (P := fun q i => ¬ ((Int32.ofNat (2 * i)) + (1 : Int32)) < 0 ∧ ((Int32.ofNat (2 * i)) + (1 : Int32)) < (Int32.ofNat (2 * q))) (by decide +kernel) cs.length hk i (by omega) hi) (own_wd_get1 cs i hi (by omega)) S.2.2.2.2.2.2
    refine Back.mono (backOf (W := W) hM hZ (tw hw 70 rfl) (tw hw 6 rfl) (by show 6 + 1 ≤ _; omega) (by show W + (2 + 11) + 90 ≤ _; omega)) (fun _ _ q => q) (fun P a v B _ q => ?_)
    obtain ⟨L, ⟨q1, q2, q3⟩, r⟩ := q
    refine ⟨L, ⟨?_, q2, q3⟩, r⟩
    have e : nar .char (nar .char (nar .char (StrChars.pairCh (StrChars.lo8 (cs.getD i 0)) (StrChars.hi8 (cs.getD i 0))))) = cs.getD i 0 := by
      rw [StrChars.pair_says hci.1 hci.2, own_nc hci.1 hci.2, own_nc hci.1 hci.2, own_nc hci.1 hci.2]
    rw [q1]; exact congrArg (fun z => some (Value.int z)) e
theorem lenA {p : Program} {l : Launch} {e : Env} {R : Room} {s : State} {args : Array Value} {below : List Frame} {len W : Nat} {Z : State} {a0 : Array Value} {h : Heap} (hZ : Z.Warmed39 s.vm) (hw : HW Z a0) {GC : Int32} {GF : Value} (S : St Z GC GF) {n0 : Nat} (O : Old Z n0 h) {x t : Addr} {cs : List Int32} (B : Str Z h x t cs) (hb : ∀ c ∈ cs, ¬ c < 0 ∧ ¬ (65535 : Int32) < c) (hk : cs.length < 7) (hfr : 2 ≤ R.frames) (hlo : W + 25 ≤ R.locals) :
    Back l R p e below s args mq26 len W (fun P a => a = #[.ref x] ∧ P.U.heap = h ∧ P.cells + 0 ≤ R.cells ∧ P.slots + 0 ≤ R.slots)
      (fun P _ v B => ∃ L, (v = some (.int (Int32.ofNat cs.length)) ∧ Fr n0 L ∧ B.U.heap = h) ∧ B.locs = P.locs ++ L ∧ B.cells = P.cells + 0 ∧ B.slots = P.slots + 0) := by
  obtain ⟨k, cd, n, vs, E, V, C, K, hc⟩ := B
  exact Back.mono (StrChars.Road.lenW (kI := 4) hZ (fun d hd => hw d (own_wordsLen d hd)) (tw hw 5 rfl) E V C K hc hb (S.1.ext O.2) S.2.2.2.1 (by omega) hfr hlo) (fun _ _ q => q) (fun P a v B _ q => by
      obtain ⟨L, ⟨q1, q2, q3⟩, r⟩ := q
      exact ⟨L, ⟨q1, by rw [q2]; exact Fr.nil _, q3⟩, r⟩)
abbrev D39 (n : Nat) (i : Instr) (k : Nat) : Prop := decode method_3_code n = .ok (i, k)
theorem d39_0 : D39 0 (.iload_n 1) 1 := by decide +kernel
theorem d39_1 : D39 1 (.ifCond .ge 5) 3 := by decide +kernel
theorem d39_6 : D39 6 (.iload_n 2) 1 := by decide +kernel
theorem d39_7 : D39 7 (.bipush 92) 2 := by decide +kernel
theorem d39_9 : D39 9 (.if_icmp .ne 9) 3 := by decide +kernel
theorem d39_12 : D39 12 (.bipush 92) 2 := by decide +kernel
theorem d39_14 : D39 14 (.istore_n 3) 1 := by decide +kernel
theorem d39_15 : D39 15 (.goto 66) 3 := by decide +kernel
theorem d39_81 : D39 81 (.iload_n 1) 1 := by decide +kernel
theorem d39_82 : D39 82 (.iconst 1) 1 := by decide +kernel
theorem d39_83 : D39 83 (.iadd) 1 := by decide +kernel
theorem d39_84 : D39 84 (.aload_n 0) 1 := by decide +kernel
theorem d39_85 : D39 85 (.invokevirtual 7) 3 := by decide +kernel
theorem d39_88 : D39 88 (.if_icmp .lt 5) 3 := by decide +kernel
theorem d39_93 : D39 93 (.aload_n 0) 1 := by decide +kernel
theorem d39_94 : D39 94 (.iload_n 1) 1 := by decide +kernel
theorem d39_95 : D39 95 (.invokevirtual 13) 3 := by decide +kernel
theorem pd_29 : parseMethodDescriptor "(I)C" = some ⟨[.int], some .char⟩ := by decide +kernel
theorem d39_98 : D39 98 (.bipush 92) 2 := by decide +kernel
theorem d39_100 : D39 100 (.if_icmp .ne 20) 3 := by decide +kernel
theorem d39_103 : D39 103 (.aload_n 0) 1 := by decide +kernel
theorem d39_104 : D39 104 (.iload_n 1) 1 := by decide +kernel
theorem d39_105 : D39 105 (.iconst 1) 1 := by decide +kernel
theorem d39_106 : D39 106 (.iadd) 1 := by decide +kernel
theorem d39_107 : D39 107 (.invokevirtual 13) 3 := by decide +kernel
theorem d39_110 : D39 110 (.iload_n 3) 1 := by decide +kernel
theorem d39_111 : D39 111 (.if_icmp .ne 9) 3 := by decide +kernel
theorem d39_114 : D39 114 (.iload_n 1) 1 := by decide +kernel
theorem d39_115 : D39 115 (.iconst 2) 1 := by decide +kernel
theorem d39_116 : D39 116 (.iadd) 1 := by decide +kernel
theorem d39_117 : D39 117 (.goto 4) 3 := by decide +kernel
theorem d39_121 : D39 121 (.ireturn) 1 := by decide +kernel
theorem ef_46 (m : MethodId) (x0 : Addr) (x1 : Int32) (x2 : Int32) : entryFrame m #[(.ref x0), (.int x1), (.int x2)] 4 = mkF m 0 #[.val (.ref x0), .val (.int x1), .val (.int x2), .unset] [] := by first | (simp [entryFrame, mkF, argsToLocals, Value.category]; done) | rfl
theorem pn_8 : plainName sq1 = true := by first | (simp [plainName, overriddenIn]; done) | decide +kernel
def Q39_66 (Z : State) (u1 : Addr) (u2 : Nat) (u3 : Int32) (GC : Int32) (GF : Value) (u4 : Addr) (u5 : List Int32) (h0 : Heap) (n0 : Nat) (v : Option Value) (h : Heap) (L : List Loc) : Prop := v = some (.int (Int32.ofNat (u2 + 2))) ∧ Fr n0 L ∧ h = h0
theorem rm39_66 (l : Launch) (Z : State) (a0 : Array Value) (hw : HW Z a0) (ws : List Jvm.Cond) (u1 : Addr) (u2 : Nat) (u3 : Int32) (GC : Int32) (GF : Value) (u4 : Addr) (u5 : List Int32) (h0 : Heap) (n0 : Nat) (Z0 : n0 ≤ h0.size) (P1 : ¬ ((Int32.ofNat u2) < (0 : Int32))) (P2 : u3 = (92 : Int32)) (P3 : Exa Z h0 u1 sq3) (P4 : St Z GC GF) (P5 : Old Z n0 h0) (P6 : Str Z h0 u1 u4 u5) (P7 : ∀ c ∈ u5, ¬ c < 0 ∧ ¬ (65535 : Int32) < c) (P8 : u5.length < 7) (P9 : (Int32.ofNat (u2 + 1)) < (Int32.ofNat u5.length)) (P10 : u2 < u5.length) (P11 : (u5.getD u2 0) = (92 : Int32)) (P12 : (u2 + 1) < u5.length) (P13 : (u5.getD (u2 + 1) 0) = (92 : Int32)) :
    MF l Z mq2 (Jvm.Cond.code mq2 method_3_code 4 (some .int)) ws rq20 #[(.ref u1), (.int (Int32.ofNat u2)), (.int u3)] h0 (Q39_66 Z u1 u2 u3 GC GF u4 u5 h0 n0) := by
  refine own_enter (plainFor_of_name pn_8) fun p e s m below meth c s₁ X0 hx hby hml hown hnm hZ e0 hre hlk => ?_
  have N0 := Fr.nil n0
  have pre0 : ∀ t, SF p e below s₁ (mkF m 0 #[rv u1, iv (Int32.ofNat u2), iv u3, .unset] []) t → SF p e below s₁ (entryFrame m #[(.ref u1), (.int (Int32.ofNat u2)), (.int u3)] 4) t := fun t k => castTop (ef_46 m u1 (Int32.ofNat u2) u3) k
  obtain ⟨cq1, kq1, q1a, q1b, q1c⟩ := isOf hZ e0 P3
  obtain ⟨_, _, ⟨T1, L1, k1x, n1⟩, -, X1, ⟨Lc1, hQ1, l1, y1, z1⟩, st1⟩ := X0.virtualBack hx (y := mq26) (z := mq26) hown (mvT hZ (tw hw 194 rfl)) (mvT hZ (tw hw 42 rfl)) (notFace_of_selects (args := #[]) (mvT hZ (tw hw 44 rfl))) (mvT hZ (tw hw 44 rfl)) (mvT hZ (tw hw 43 rfl)) (by decide) (lenA (W := 1) hZ hw P4 P5 P6 P7 P8 (by decide) (by decide)) q1a q1c (g := (mkF m 85 #[rv u1, iv (Int32.ofNat u2), iv u3, iv 92] [(.ref u1), (.int (Int32.ofNat (u2 + 1)))])) rfl (by rw [hml]; rfl) (Steps.refl _) (argsL := []) (rest := [(.int (Int32.ofNat (u2 + 1)))]) (lenOf pd_19 rfl) rfl (Nat.le_of_eq rfl) (hb hby d39_85) (fun _ _ => ⟨rfl, e0, (by decide : 0 + 0 ≤ _), (by decide : 0 + 0 ≤ _)⟩)
  dsimp only [Pt.U, Pt.locs, Pt.cells, Pt.slots] at X1 l1 y1 z1 st1 hQ1
  subst l1 y1 z1
  obtain ⟨rfl, N1q, e1⟩ := hQ1
  have N1 := Fr.app N0 N1q
  obtain ⟨cq2, kq2, q2a, q2b, q2c⟩ := isOf hZ e1 P3
  obtain ⟨_, _, ⟨T2, L2, k2x, n2⟩, -, X2, ⟨Lc2, hQ2, l2, y2, z2⟩, st2⟩ := X1.virtualBack hx (y := mq20) (z := mq20) hown (mvT hZ (tw hw 195 rfl)) (mvT hZ (tw hw 67 rfl)) (notFace_of_selects (args := #[]) (mvT hZ (tw hw 69 rfl))) (mvT hZ (tw hw 69 rfl)) (mvT hZ (tw hw 68 rfl)) (by decide) (chA (W := 0) hZ hw P4 Z0 P5 P6 P7 P8 P10 (j := (Int32.ofNat u2)) rfl (by decide) (by decide)) q2a q2c (g := (mkF m 95 #[rv u1, iv (Int32.ofNat u2), iv u3, iv 92] [(.int (Int32.ofNat u2)), (.ref u1)])) rfl (by rw [hml]; rfl) (Steps.refl _) (argsL := [(.int (Int32.ofNat u2))]) (rest := []) (lenOf pd_29 rfl) rfl (Nat.le_of_eq rfl) (hb hby d39_95) (fun _ _ => ⟨rfl, e1, (by decide : 0 + 0 ≤ _), (by decide : 0 + 0 ≤ _)⟩)
  dsimp only [Pt.U, Pt.locs, Pt.cells, Pt.slots] at X2 l2 y2 z2 st2 hQ2
  subst l2 y2 z2
  obtain ⟨rfl, N2q, e2⟩ := hQ2
  have N2 := Fr.app N1 N2q
  obtain ⟨cq3, kq3, q3a, q3b, q3c⟩ := isOf hZ e2 P3
  obtain ⟨_, _, ⟨T3, L3, k3x, n3⟩, -, X3, ⟨Lc3, hQ3, l3, y3, z3⟩, st3⟩ := X2.virtualBack hx (y := mq20) (z := mq20) hown (mvT hZ (tw hw 195 rfl)) (mvT hZ (tw hw 67 rfl)) (notFace_of_selects (args := #[]) (mvT hZ (tw hw 69 rfl))) (mvT hZ (tw hw 69 rfl)) (mvT hZ (tw hw 68 rfl)) (by decide) (chA (W := 0) hZ hw P4 Z0 P5 P6 P7 P8 P12 (j := (Int32.ofNat (u2 + 1))) rfl (by decide) (by decide)) q3a q3c (g := (mkF m 107 #[rv u1, iv (Int32.ofNat u2), iv u3, iv 92] [(.int (Int32.ofNat (u2 + 1))), (.ref u1)])) rfl (by rw [hml]; rfl) (Steps.refl _) (argsL := [(.int (Int32.ofNat (u2 + 1)))]) (rest := []) (lenOf pd_29 rfl) rfl (Nat.le_of_eq rfl) (hb hby d39_107) (fun _ _ => ⟨rfl, e2, (by decide : 0 + 0 ≤ _), (by decide : 0 + 0 ≤ _)⟩)
  dsimp only [Pt.U, Pt.locs, Pt.cells, Pt.slots] at X3 l3 y3 z3 st3 hQ3
  subst l3 y3 z3
  obtain ⟨rfl, N3q, e3⟩ := hQ3
  have N3 := Fr.app N2 N3q
  obtain ⟨fs, hr, hrun, hended, hW, hsame⟩ := X3.leave (v := some (.int (Int32.ofNat (u2 + 2)))) (fun h => by rw [hre] at h; cases h)
  refine ⟨_, _, pre0 _ ?_, hrun, hended, _, _, rfl, ?_, ⟨_, rfl⟩, hW, hsame.mono (by decide) (by decide)⟩
  · show SF p e below s₁ (mkF m 0 #[rv u1, iv (Int32.ofNat u2), iv u3, .unset] []) _
    refine XS.iloadN X0.here hx rfl (hb hby d39_0) rfl ?_
    refine XS.ifYes X0.here hx rfl (pc0 := 1) (pc' := 6) rfl (hb hby d39_1) rfl ((if0 _ _).trans (flt P1).2.1) (by decide) (by decide) ?_
    refine XS.iloadN X0.here hx rfl (hb hby d39_6) rfl ?_
    refine XS.bipush X0.here hx rfl (hb hby d39_7) ?_
    refine XS.icmpNo X0.here hx rfl (hb hby d39_9) rfl (teq P2).2 ?_
    refine XS.bipush X0.here hx rfl (hb hby d39_12) ?_
    refine XS.istoreN X0.here hx rfl (hb hby d39_14) rfl (l' := #[rv u1, iv (Int32.ofNat u2), iv u3, iv 92]) rfl ?_
    refine XS.goto X0.here hx rfl (pc0 := 15) (pc' := 81) rfl (hb hby d39_15) (by decide) (by decide) ?_
    refine XS.iloadN X0.here hx rfl (hb hby d39_81) rfl ?_
    refine XS.iconst X0.here hx rfl (hb hby d39_82) ?_
    refine XS.iadd X0.here hx rfl (hb hby d39_83) rfl ?_
    show SF p e below s₁ (mkF m 84 #[rv u1, iv (Int32.ofNat u2), iv u3, iv 92] [(.int ((Int32.ofNat u2) + (1 : Int32)))]) _
    rw [(show ((Int32.ofNat u2) + (1 : Int32)) = (Int32.ofNat (u2 + 1)) from own_addk _ 1)]
    refine XS.aloadN X0.here hx rfl (hb hby d39_84) rfl rfl ?_
    refine st1.trans ?_
    refine XS.icmpYes X1.here hx rfl (pc0 := 88) (pc' := 93) rfl (hb hby d39_88) rfl (tlt P9).1 (by decide) (by decide) ?_
    refine XS.aloadN X1.here hx rfl (hb hby d39_93) rfl rfl ?_
    refine XS.iloadN X1.here hx rfl (hb hby d39_94) rfl ?_
    refine st2.trans ?_
    refine XS.bipush X2.here hx rfl (hb hby d39_98) ?_
    refine XS.icmpNo X2.here hx rfl (hb hby d39_100) rfl (teq P11).2 ?_
    refine XS.aloadN X2.here hx rfl (hb hby d39_103) rfl rfl ?_
    refine XS.iloadN X2.here hx rfl (hb hby d39_104) rfl ?_
    refine XS.iconst X2.here hx rfl (hb hby d39_105) ?_
    refine XS.iadd X2.here hx rfl (hb hby d39_106) rfl ?_
    show SF p e below T2 (mkF m 107 #[rv u1, iv (Int32.ofNat u2), iv u3, iv 92] [(.int ((Int32.ofNat u2) + (1 : Int32))), (.ref u1)]) _
    rw [(show ((Int32.ofNat u2) + (1 : Int32)) = (Int32.ofNat (u2 + 1)) from own_addk _ 1)]
    refine st3.trans ?_
    refine XS.iloadN X3.here hx rfl (hb hby d39_110) rfl ?_
    refine XS.icmpNo X3.here hx rfl (hb hby d39_111) rfl (teq P13).2 ?_
    refine XS.iloadN X3.here hx rfl (hb hby d39_114) rfl ?_
    refine XS.iconst X3.here hx rfl (hb hby d39_115) ?_
    refine XS.iadd X3.here hx rfl (hb hby d39_116) rfl ?_
    show SF p e below T3 (mkF m 117 #[rv u1, iv (Int32.ofNat u2), iv u3, iv 92] [(.int ((Int32.ofNat u2) + (2 : Int32)))]) _
    rw [(show ((Int32.ofNat u2) + (2 : Int32)) = (Int32.ofNat (u2 + 2)) from own_addk _ 2)]
    refine XS.goto X3.here hx rfl (pc0 := 117) (pc' := 121) rfl (hb hby d39_117) (by decide) (by decide) ?_
    exact retI X3 hx hre (hb hby d39_121) hr
  · show Q39_66 Z u1 u2 u3 GC GF u4 u5 h0 n0 _ T3.heap _
    rw [e3]
    exact ⟨rfl, N3, rfl⟩
theorem d39_18 : D39 18 (.iload_n 2) 1 := by decide +kernel
theorem d39_19 : D39 19 (.bipush 9) 2 := by decide +kernel
theorem d39_21 : D39 21 (.if_icmp .ne 9) 3 := by decide +kernel
theorem d39_24 : D39 24 (.bipush 116) 2 := by decide +kernel
theorem d39_26 : D39 26 (.istore_n 3) 1 := by decide +kernel
theorem d39_27 : D39 27 (.goto 54) 3 := by decide +kernel
def Q39_67 (Z : State) (u1 : Addr) (u2 : Nat) (u3 : Int32) (GC : Int32) (GF : Value) (u4 : Addr) (u5 : List Int32) (h0 : Heap) (n0 : Nat) (v : Option Value) (h : Heap) (L : List Loc) : Prop := v = some (.int (Int32.ofNat (u2 + 2))) ∧ Fr n0 L ∧ h = h0
theorem rm39_67 (l : Launch) (Z : State) (a0 : Array Value) (hw : HW Z a0) (ws : List Jvm.Cond) (u1 : Addr) (u2 : Nat) (u3 : Int32) (GC : Int32) (GF : Value) (u4 : Addr) (u5 : List Int32) (h0 : Heap) (n0 : Nat) (Z0 : n0 ≤ h0.size) (P1 : ¬ ((Int32.ofNat u2) < (0 : Int32))) (P2 : ¬ (u3 = (92 : Int32))) (P3 : u3 = (9 : Int32)) (P4 : Exa Z h0 u1 sq3) (P5 : St Z GC GF) (P6 : Old Z n0 h0) (P7 : Str Z h0 u1 u4 u5) (P8 : ∀ c ∈ u5, ¬ c < 0 ∧ ¬ (65535 : Int32) < c) (P9 : u5.length < 7) (P10 : (Int32.ofNat (u2 + 1)) < (Int32.ofNat u5.length)) (P11 : u2 < u5.length) (P12 : (u5.getD u2 0) = (92 : Int32)) (P13 : (u2 + 1) < u5.length) (P14 : (u5.getD (u2 + 1) 0) = (116 : Int32)) :
    MF l Z mq2 (Jvm.Cond.code mq2 method_3_code 4 (some .int)) ws rq20 #[(.ref u1), (.int (Int32.ofNat u2)), (.int u3)] h0 (Q39_67 Z u1 u2 u3 GC GF u4 u5 h0 n0) := by
  refine own_enter (plainFor_of_name pn_8) fun p e s m below meth c s₁ X0 hx hby hml hown hnm hZ e0 hre hlk => ?_
  have N0 := Fr.nil n0
  have pre0 : ∀ t, SF p e below s₁ (mkF m 0 #[rv u1, iv (Int32.ofNat u2), iv u3, .unset] []) t → SF p e below s₁ (entryFrame m #[(.ref u1), (.int (Int32.ofNat u2)), (.int u3)] 4) t := fun t k => castTop (ef_46 m u1 (Int32.ofNat u2) u3) k
  obtain ⟨cq1, kq1, q1a, q1b, q1c⟩ := isOf hZ e0 P4
  obtain ⟨_, _, ⟨T1, L1, k1x, n1⟩, -, X1, ⟨Lc1, hQ1, l1, y1, z1⟩, st1⟩ := X0.virtualBack hx (y := mq26) (z := mq26) hown (mvT hZ (tw hw 194 rfl)) (mvT hZ (tw hw 42 rfl)) (notFace_of_selects (args := #[]) (mvT hZ (tw hw 44 rfl))) (mvT hZ (tw hw 44 rfl)) (mvT hZ (tw hw 43 rfl)) (by decide) (lenA (W := 1) hZ hw P5 P6 P7 P8 P9 (by decide) (by decide)) q1a q1c (g := (mkF m 85 #[rv u1, iv (Int32.ofNat u2), iv u3, iv 116] [(.ref u1), (.int (Int32.ofNat (u2 + 1)))])) rfl (by rw [hml]; rfl) (Steps.refl _) (argsL := []) (rest := [(.int (Int32.ofNat (u2 + 1)))]) (lenOf pd_19 rfl) rfl (Nat.le_of_eq rfl) (hb hby d39_85) (fun _ _ => ⟨rfl, e0, (by decide : 0 + 0 ≤ _), (by decide : 0 + 0 ≤ _)⟩)
  dsimp only [Pt.U, Pt.locs, Pt.cells, Pt.slots] at X1 l1 y1 z1 st1 hQ1
  subst l1 y1 z1
  obtain ⟨rfl, N1q, e1⟩ := hQ1
  have N1 := Fr.app N0 N1q
  obtain ⟨cq2, kq2, q2a, q2b, q2c⟩ := isOf hZ e1 P4
  obtain ⟨_, _, ⟨T2, L2, k2x, n2⟩, -, X2, ⟨Lc2, hQ2, l2, y2, z2⟩, st2⟩ := X1.virtualBack hx (y := mq20) (z := mq20) hown (mvT hZ (tw hw 195 rfl)) (mvT hZ (tw hw 67 rfl)) (notFace_of_selects (args := #[]) (mvT hZ (tw hw 69 rfl))) (mvT hZ (tw hw 69 rfl)) (mvT hZ (tw hw 68 rfl)) (by decide) (chA (W := 0) hZ hw P5 Z0 P6 P7 P8 P9 P11 (j := (Int32.ofNat u2)) rfl (by decide) (by decide)) q2a q2c (g := (mkF m 95 #[rv u1, iv (Int32.ofNat u2), iv u3, iv 116] [(.int (Int32.ofNat u2)), (.ref u1)])) rfl (by rw [hml]; rfl) (Steps.refl _) (argsL := [(.int (Int32.ofNat u2))]) (rest := []) (lenOf pd_29 rfl) rfl (Nat.le_of_eq rfl) (hb hby d39_95) (fun _ _ => ⟨rfl, e1, (by decide : 0 + 0 ≤ _), (by decide : 0 + 0 ≤ _)⟩)
  dsimp only [Pt.U, Pt.locs, Pt.cells, Pt.slots] at X2 l2 y2 z2 st2 hQ2
  subst l2 y2 z2
  obtain ⟨rfl, N2q, e2⟩ := hQ2
  have N2 := Fr.app N1 N2q
  obtain ⟨cq3, kq3, q3a, q3b, q3c⟩ := isOf hZ e2 P4
  obtain ⟨_, _, ⟨T3, L3, k3x, n3⟩, -, X3, ⟨Lc3, hQ3, l3, y3, z3⟩, st3⟩ := X2.virtualBack hx (y := mq20) (z := mq20) hown (mvT hZ (tw hw 195 rfl)) (mvT hZ (tw hw 67 rfl)) (notFace_of_selects (args := #[]) (mvT hZ (tw hw 69 rfl))) (mvT hZ (tw hw 69 rfl)) (mvT hZ (tw hw 68 rfl)) (by decide) (chA (W := 0) hZ hw P5 Z0 P6 P7 P8 P9 P13 (j := (Int32.ofNat (u2 + 1))) rfl (by decide) (by decide)) q3a q3c (g := (mkF m 107 #[rv u1, iv (Int32.ofNat u2), iv u3, iv 116] [(.int (Int32.ofNat (u2 + 1))), (.ref u1)])) rfl (by rw [hml]; rfl) (Steps.refl _) (argsL := [(.int (Int32.ofNat (u2 + 1)))]) (rest := []) (lenOf pd_29 rfl) rfl (Nat.le_of_eq rfl) (hb hby d39_107) (fun _ _ => ⟨rfl, e2, (by decide : 0 + 0 ≤ _), (by decide : 0 + 0 ≤ _)⟩)
  dsimp only [Pt.U, Pt.locs, Pt.cells, Pt.slots] at X3 l3 y3 z3 st3 hQ3
  subst l3 y3 z3
  obtain ⟨rfl, N3q, e3⟩ := hQ3
  have N3 := Fr.app N2 N3q
  obtain ⟨fs, hr, hrun, hended, hW, hsame⟩ := X3.leave (v := some (.int (Int32.ofNat (u2 + 2)))) (fun h => by rw [hre] at h; cases h)
  refine ⟨_, _, pre0 _ ?_, hrun, hended, _, _, rfl, ?_, ⟨_, rfl⟩, hW, hsame.mono (by decide) (by decide)⟩
  · show SF p e below s₁ (mkF m 0 #[rv u1, iv (Int32.ofNat u2), iv u3, .unset] []) _
    refine XS.iloadN X0.here hx rfl (hb hby d39_0) rfl ?_
    refine XS.ifYes X0.here hx rfl (pc0 := 1) (pc' := 6) rfl (hb hby d39_1) rfl ((if0 _ _).trans (flt P1).2.1) (by decide) (by decide) ?_
    refine XS.iloadN X0.here hx rfl (hb hby d39_6) rfl ?_
    refine XS.bipush X0.here hx rfl (hb hby d39_7) ?_
    refine XS.icmpYes X0.here hx rfl (pc0 := 9) (pc' := 18) rfl (hb hby d39_9) rfl (feq P2).2 (by decide) (by decide) ?_
    refine XS.iloadN X0.here hx rfl (hb hby d39_18) rfl ?_
    refine XS.bipush X0.here hx rfl (hb hby d39_19) ?_
    refine XS.icmpNo X0.here hx rfl (hb hby d39_21) rfl (teq P3).2 ?_
    refine XS.bipush X0.here hx rfl (hb hby d39_24) ?_
    refine XS.istoreN X0.here hx rfl (hb hby d39_26) rfl (l' := #[rv u1, iv (Int32.ofNat u2), iv u3, iv 116]) rfl ?_
    refine XS.goto X0.here hx rfl (pc0 := 27) (pc' := 81) rfl (hb hby d39_27) (by decide) (by decide) ?_
    refine XS.iloadN X0.here hx rfl (hb hby d39_81) rfl ?_
    refine XS.iconst X0.here hx rfl (hb hby d39_82) ?_
    refine XS.iadd X0.here hx rfl (hb hby d39_83) rfl ?_
    show SF p e below s₁ (mkF m 84 #[rv u1, iv (Int32.ofNat u2), iv u3, iv 116] [(.int ((Int32.ofNat u2) + (1 : Int32)))]) _
    rw [(show ((Int32.ofNat u2) + (1 : Int32)) = (Int32.ofNat (u2 + 1)) from own_addk _ 1)]
    refine XS.aloadN X0.here hx rfl (hb hby d39_84) rfl rfl ?_
    refine st1.trans ?_
    refine XS.icmpYes X1.here hx rfl (pc0 := 88) (pc' := 93) rfl (hb hby d39_88) rfl (tlt P10).1 (by decide) (by decide) ?_
    refine XS.aloadN X1.here hx rfl (hb hby d39_93) rfl rfl ?_
    refine XS.iloadN X1.here hx rfl (hb hby d39_94) rfl ?_
    refine st2.trans ?_
    refine XS.bipush X2.here hx rfl (hb hby d39_98) ?_
    refine XS.icmpNo X2.here hx rfl (hb hby d39_100) rfl (teq P12).2 ?_
    refine XS.aloadN X2.here hx rfl (hb hby d39_103) rfl rfl ?_
    refine XS.iloadN X2.here hx rfl (hb hby d39_104) rfl ?_
    refine XS.iconst X2.here hx rfl (hb hby d39_105) ?_
    refine XS.iadd X2.here hx rfl (hb hby d39_106) rfl ?_
    show SF p e below T2 (mkF m 107 #[rv u1, iv (Int32.ofNat u2), iv u3, iv 116] [(.int ((Int32.ofNat u2) + (1 : Int32))), (.ref u1)]) _
    rw [(show ((Int32.ofNat u2) + (1 : Int32)) = (Int32.ofNat (u2 + 1)) from own_addk _ 1)]
    refine st3.trans ?_
    refine XS.iloadN X3.here hx rfl (hb hby d39_110) rfl ?_
    refine XS.icmpNo X3.here hx rfl (hb hby d39_111) rfl (teq P14).2 ?_
    refine XS.iloadN X3.here hx rfl (hb hby d39_114) rfl ?_
    refine XS.iconst X3.here hx rfl (hb hby d39_115) ?_
    refine XS.iadd X3.here hx rfl (hb hby d39_116) rfl ?_
    show SF p e below T3 (mkF m 117 #[rv u1, iv (Int32.ofNat u2), iv u3, iv 116] [(.int ((Int32.ofNat u2) + (2 : Int32)))]) _
    rw [(show ((Int32.ofNat u2) + (2 : Int32)) = (Int32.ofNat (u2 + 2)) from own_addk _ 2)]
    refine XS.goto X3.here hx rfl (pc0 := 117) (pc' := 121) rfl (hb hby d39_117) (by decide) (by decide) ?_
    exact retI X3 hx hre (hb hby d39_121) hr
  · show Q39_67 Z u1 u2 u3 GC GF u4 u5 h0 n0 _ T3.heap _
    rw [e3]
    exact ⟨rfl, N3, rfl⟩
theorem d39_30 : D39 30 (.iload_n 2) 1 := by decide +kernel
theorem d39_31 : D39 31 (.bipush 10) 2 := by decide +kernel
theorem d39_33 : D39 33 (.if_icmp .ne 9) 3 := by decide +kernel
theorem d39_36 : D39 36 (.bipush 110) 2 := by decide +kernel
theorem d39_38 : D39 38 (.istore_n 3) 1 := by decide +kernel
theorem d39_39 : D39 39 (.goto 42) 3 := by decide +kernel
def Q39_68 (Z : State) (u1 : Addr) (u2 : Nat) (u3 : Int32) (GC : Int32) (GF : Value) (u4 : Addr) (u5 : List Int32) (h0 : Heap) (n0 : Nat) (v : Option Value) (h : Heap) (L : List Loc) : Prop := v = some (.int (Int32.ofNat (u2 + 2))) ∧ Fr n0 L ∧ h = h0
theorem rm39_68 (l : Launch) (Z : State) (a0 : Array Value) (hw : HW Z a0) (ws : List Jvm.Cond) (u1 : Addr) (u2 : Nat) (u3 : Int32) (GC : Int32) (GF : Value) (u4 : Addr) (u5 : List Int32) (h0 : Heap) (n0 : Nat) (Z0 : n0 ≤ h0.size) (P1 : ¬ ((Int32.ofNat u2) < (0 : Int32))) (P2 : ¬ (u3 = (92 : Int32))) (P3 : ¬ (u3 = (9 : Int32))) (P4 : u3 = (10 : Int32)) (P5 : Exa Z h0 u1 sq3) (P6 : St Z GC GF) (P7 : Old Z n0 h0) (P8 : Str Z h0 u1 u4 u5) (P9 : ∀ c ∈ u5, ¬ c < 0 ∧ ¬ (65535 : Int32) < c) (P10 : u5.length < 7) (P11 : (Int32.ofNat (u2 + 1)) < (Int32.ofNat u5.length)) (P12 : u2 < u5.length) (P13 : (u5.getD u2 0) = (92 : Int32)) (P14 : (u2 + 1) < u5.length) (P15 : (u5.getD (u2 + 1) 0) = (110 : Int32)) :
    MF l Z mq2 (Jvm.Cond.code mq2 method_3_code 4 (some .int)) ws rq20 #[(.ref u1), (.int (Int32.ofNat u2)), (.int u3)] h0 (Q39_68 Z u1 u2 u3 GC GF u4 u5 h0 n0) := by
  refine own_enter (plainFor_of_name pn_8) fun p e s m below meth c s₁ X0 hx hby hml hown hnm hZ e0 hre hlk => ?_
  have N0 := Fr.nil n0
  have pre0 : ∀ t, SF p e below s₁ (mkF m 0 #[rv u1, iv (Int32.ofNat u2), iv u3, .unset] []) t → SF p e below s₁ (entryFrame m #[(.ref u1), (.int (Int32.ofNat u2)), (.int u3)] 4) t := fun t k => castTop (ef_46 m u1 (Int32.ofNat u2) u3) k
  obtain ⟨cq1, kq1, q1a, q1b, q1c⟩ := isOf hZ e0 P5
  obtain ⟨_, _, ⟨T1, L1, k1x, n1⟩, -, X1, ⟨Lc1, hQ1, l1, y1, z1⟩, st1⟩ := X0.virtualBack hx (y := mq26) (z := mq26) hown (mvT hZ (tw hw 194 rfl)) (mvT hZ (tw hw 42 rfl)) (notFace_of_selects (args := #[]) (mvT hZ (tw hw 44 rfl))) (mvT hZ (tw hw 44 rfl)) (mvT hZ (tw hw 43 rfl)) (by decide) (lenA (W := 1) hZ hw P6 P7 P8 P9 P10 (by decide) (by decide)) q1a q1c (g := (mkF m 85 #[rv u1, iv (Int32.ofNat u2), iv u3, iv 110] [(.ref u1), (.int (Int32.ofNat (u2 + 1)))])) rfl (by rw [hml]; rfl) (Steps.refl _) (argsL := []) (rest := [(.int (Int32.ofNat (u2 + 1)))]) (lenOf pd_19 rfl) rfl (Nat.le_of_eq rfl) (hb hby d39_85) (fun _ _ => ⟨rfl, e0, (by decide : 0 + 0 ≤ _), (by decide : 0 + 0 ≤ _)⟩)
  dsimp only [Pt.U, Pt.locs, Pt.cells, Pt.slots] at X1 l1 y1 z1 st1 hQ1
  subst l1 y1 z1
  obtain ⟨rfl, N1q, e1⟩ := hQ1
  have N1 := Fr.app N0 N1q
  obtain ⟨cq2, kq2, q2a, q2b, q2c⟩ := isOf hZ e1 P5
  obtain ⟨_, _, ⟨T2, L2, k2x, n2⟩, -, X2, ⟨Lc2, hQ2, l2, y2, z2⟩, st2⟩ := X1.virtualBack hx (y := mq20) (z := mq20) hown (mvT hZ (tw hw 195 rfl)) (mvT hZ (tw hw 67 rfl)) (notFace_of_selects (args := #[]) (mvT hZ (tw hw 69 rfl))) (mvT hZ (tw hw 69 rfl)) (mvT hZ (tw hw 68 rfl)) (by decide) (chA (W := 0) hZ hw P6 Z0 P7 P8 P9 P10 P12 (j := (Int32.ofNat u2)) rfl (by decide) (by decide)) q2a q2c (g := (mkF m 95 #[rv u1, iv (Int32.ofNat u2), iv u3, iv 110] [(.int (Int32.ofNat u2)), (.ref u1)])) rfl (by rw [hml]; rfl) (Steps.refl _) (argsL := [(.int (Int32.ofNat u2))]) (rest := []) (lenOf pd_29 rfl) rfl (Nat.le_of_eq rfl) (hb hby d39_95) (fun _ _ => ⟨rfl, e1, (by decide : 0 + 0 ≤ _), (by decide : 0 + 0 ≤ _)⟩)
  dsimp only [Pt.U, Pt.locs, Pt.cells, Pt.slots] at X2 l2 y2 z2 st2 hQ2
  subst l2 y2 z2
  obtain ⟨rfl, N2q, e2⟩ := hQ2
  have N2 := Fr.app N1 N2q
  obtain ⟨cq3, kq3, q3a, q3b, q3c⟩ := isOf hZ e2 P5
  obtain ⟨_, _, ⟨T3, L3, k3x, n3⟩, -, X3, ⟨Lc3, hQ3, l3, y3, z3⟩, st3⟩ := X2.virtualBack hx (y := mq20) (z := mq20) hown (mvT hZ (tw hw 195 rfl)) (mvT hZ (tw hw 67 rfl)) (notFace_of_selects (args := #[]) (mvT hZ (tw hw 69 rfl))) (mvT hZ (tw hw 69 rfl)) (mvT hZ (tw hw 68 rfl)) (by decide) (chA (W := 0) hZ hw P6 Z0 P7 P8 P9 P10 P14 (j := (Int32.ofNat (u2 + 1))) rfl (by decide) (by decide)) q3a q3c (g := (mkF m 107 #[rv u1, iv (Int32.ofNat u2), iv u3, iv 110] [(.int (Int32.ofNat (u2 + 1))), (.ref u1)])) rfl (by rw [hml]; rfl) (Steps.refl _) (argsL := [(.int (Int32.ofNat (u2 + 1)))]) (rest := []) (lenOf pd_29 rfl) rfl (Nat.le_of_eq rfl) (hb hby d39_107) (fun _ _ => ⟨rfl, e2, (by decide : 0 + 0 ≤ _), (by decide : 0 + 0 ≤ _)⟩)
  dsimp only [Pt.U, Pt.locs, Pt.cells, Pt.slots] at X3 l3 y3 z3 st3 hQ3
  subst l3 y3 z3
  obtain ⟨rfl, N3q, e3⟩ := hQ3
  have N3 := Fr.app N2 N3q
  obtain ⟨fs, hr, hrun, hended, hW, hsame⟩ := X3.leave (v := some (.int (Int32.ofNat (u2 + 2)))) (fun h => by rw [hre] at h; cases h)
  refine ⟨_, _, pre0 _ ?_, hrun, hended, _, _, rfl, ?_, ⟨_, rfl⟩, hW, hsame.mono (by decide) (by decide)⟩
  · show SF p e below s₁ (mkF m 0 #[rv u1, iv (Int32.ofNat u2), iv u3, .unset] []) _
    refine XS.iloadN X0.here hx rfl (hb hby d39_0) rfl ?_
    refine XS.ifYes X0.here hx rfl (pc0 := 1) (pc' := 6) rfl (hb hby d39_1) rfl ((if0 _ _).trans (flt P1).2.1) (by decide) (by decide) ?_
    refine XS.iloadN X0.here hx rfl (hb hby d39_6) rfl ?_
    refine XS.bipush X0.here hx rfl (hb hby d39_7) ?_
    refine XS.icmpYes X0.here hx rfl (pc0 := 9) (pc' := 18) rfl (hb hby d39_9) rfl (feq P2).2 (by decide) (by decide) ?_
    refine XS.iloadN X0.here hx rfl (hb hby d39_18) rfl ?_
    refine XS.bipush X0.here hx rfl (hb hby d39_19) ?_
    refine XS.icmpYes X0.here hx rfl (pc0 := 21) (pc' := 30) rfl (hb hby d39_21) rfl (feq P3).2 (by decide) (by decide) ?_
    refine XS.iloadN X0.here hx rfl (hb hby d39_30) rfl ?_
    refine XS.bipush X0.here hx rfl (hb hby d39_31) ?_
    refine XS.icmpNo X0.here hx rfl (hb hby d39_33) rfl (teq P4).2 ?_
    refine XS.bipush X0.here hx rfl (hb hby d39_36) ?_
    refine XS.istoreN X0.here hx rfl (hb hby d39_38) rfl (l' := #[rv u1, iv (Int32.ofNat u2), iv u3, iv 110]) rfl ?_
    refine XS.goto X0.here hx rfl (pc0 := 39) (pc' := 81) rfl (hb hby d39_39) (by decide) (by decide) ?_
    refine XS.iloadN X0.here hx rfl (hb hby d39_81) rfl ?_
    refine XS.iconst X0.here hx rfl (hb hby d39_82) ?_
    refine XS.iadd X0.here hx rfl (hb hby d39_83) rfl ?_
    show SF p e below s₁ (mkF m 84 #[rv u1, iv (Int32.ofNat u2), iv u3, iv 110] [(.int ((Int32.ofNat u2) + (1 : Int32)))]) _
    rw [(show ((Int32.ofNat u2) + (1 : Int32)) = (Int32.ofNat (u2 + 1)) from own_addk _ 1)]
    refine XS.aloadN X0.here hx rfl (hb hby d39_84) rfl rfl ?_
    refine st1.trans ?_
    refine XS.icmpYes X1.here hx rfl (pc0 := 88) (pc' := 93) rfl (hb hby d39_88) rfl (tlt P11).1 (by decide) (by decide) ?_
    refine XS.aloadN X1.here hx rfl (hb hby d39_93) rfl rfl ?_
    refine XS.iloadN X1.here hx rfl (hb hby d39_94) rfl ?_
    refine st2.trans ?_
    refine XS.bipush X2.here hx rfl (hb hby d39_98) ?_
    refine XS.icmpNo X2.here hx rfl (hb hby d39_100) rfl (teq P13).2 ?_
    refine XS.aloadN X2.here hx rfl (hb hby d39_103) rfl rfl ?_
    refine XS.iloadN X2.here hx rfl (hb hby d39_104) rfl ?_
    refine XS.iconst X2.here hx rfl (hb hby d39_105) ?_
    refine XS.iadd X2.here hx rfl (hb hby d39_106) rfl ?_
    show SF p e below T2 (mkF m 107 #[rv u1, iv (Int32.ofNat u2), iv u3, iv 110] [(.int ((Int32.ofNat u2) + (1 : Int32))), (.ref u1)]) _
    rw [(show ((Int32.ofNat u2) + (1 : Int32)) = (Int32.ofNat (u2 + 1)) from own_addk _ 1)]
    refine st3.trans ?_
    refine XS.iloadN X3.here hx rfl (hb hby d39_110) rfl ?_
    refine XS.icmpNo X3.here hx rfl (hb hby d39_111) rfl (teq P15).2 ?_
    refine XS.iloadN X3.here hx rfl (hb hby d39_114) rfl ?_
    refine XS.iconst X3.here hx rfl (hb hby d39_115) ?_
    refine XS.iadd X3.here hx rfl (hb hby d39_116) rfl ?_
    show SF p e below T3 (mkF m 117 #[rv u1, iv (Int32.ofNat u2), iv u3, iv 110] [(.int ((Int32.ofNat u2) + (2 : Int32)))]) _
    rw [(show ((Int32.ofNat u2) + (2 : Int32)) = (Int32.ofNat (u2 + 2)) from own_addk _ 2)]
    refine XS.goto X3.here hx rfl (pc0 := 117) (pc' := 121) rfl (hb hby d39_117) (by decide) (by decide) ?_
    exact retI X3 hx hre (hb hby d39_121) hr
  · show Q39_68 Z u1 u2 u3 GC GF u4 u5 h0 n0 _ T3.heap _
    rw [e3]
    exact ⟨rfl, N3, rfl⟩
theorem d39_42 : D39 42 (.iload_n 2) 1 := by decide +kernel
theorem d39_43 : D39 43 (.bipush 13) 2 := by decide +kernel
theorem d39_45 : D39 45 (.if_icmp .ne 9) 3 := by decide +kernel
theorem d39_48 : D39 48 (.bipush 114) 2 := by decide +kernel
theorem d39_50 : D39 50 (.istore_n 3) 1 := by decide +kernel
theorem d39_51 : D39 51 (.goto 30) 3 := by decide +kernel
def Q39_69 (Z : State) (u1 : Addr) (u2 : Nat) (u3 : Int32) (GC : Int32) (GF : Value) (u4 : Addr) (u5 : List Int32) (h0 : Heap) (n0 : Nat) (v : Option Value) (h : Heap) (L : List Loc) : Prop := v = some (.int (Int32.ofNat (u2 + 2))) ∧ Fr n0 L ∧ h = h0
theorem rm39_69 (l : Launch) (Z : State) (a0 : Array Value) (hw : HW Z a0) (ws : List Jvm.Cond) (u1 : Addr) (u2 : Nat) (u3 : Int32) (GC : Int32) (GF : Value) (u4 : Addr) (u5 : List Int32) (h0 : Heap) (n0 : Nat) (Z0 : n0 ≤ h0.size) (P1 : ¬ ((Int32.ofNat u2) < (0 : Int32))) (P2 : ¬ (u3 = (92 : Int32))) (P3 : ¬ (u3 = (9 : Int32))) (P4 : ¬ (u3 = (10 : Int32))) (P5 : u3 = (13 : Int32)) (P6 : Exa Z h0 u1 sq3) (P7 : St Z GC GF) (P8 : Old Z n0 h0) (P9 : Str Z h0 u1 u4 u5) (P10 : ∀ c ∈ u5, ¬ c < 0 ∧ ¬ (65535 : Int32) < c) (P11 : u5.length < 7) (P12 : (Int32.ofNat (u2 + 1)) < (Int32.ofNat u5.length)) (P13 : u2 < u5.length) (P14 : (u5.getD u2 0) = (92 : Int32)) (P15 : (u2 + 1) < u5.length) (P16 : (u5.getD (u2 + 1) 0) = (114 : Int32)) :
    MF l Z mq2 (Jvm.Cond.code mq2 method_3_code 4 (some .int)) ws rq20 #[(.ref u1), (.int (Int32.ofNat u2)), (.int u3)] h0 (Q39_69 Z u1 u2 u3 GC GF u4 u5 h0 n0) := by
  refine own_enter (plainFor_of_name pn_8) fun p e s m below meth c s₁ X0 hx hby hml hown hnm hZ e0 hre hlk => ?_
  have N0 := Fr.nil n0
  have pre0 : ∀ t, SF p e below s₁ (mkF m 0 #[rv u1, iv (Int32.ofNat u2), iv u3, .unset] []) t → SF p e below s₁ (entryFrame m #[(.ref u1), (.int (Int32.ofNat u2)), (.int u3)] 4) t := fun t k => castTop (ef_46 m u1 (Int32.ofNat u2) u3) k
  obtain ⟨cq1, kq1, q1a, q1b, q1c⟩ := isOf hZ e0 P6
  obtain ⟨_, _, ⟨T1, L1, k1x, n1⟩, -, X1, ⟨Lc1, hQ1, l1, y1, z1⟩, st1⟩ := X0.virtualBack hx (y := mq26) (z := mq26) hown (mvT hZ (tw hw 194 rfl)) (mvT hZ (tw hw 42 rfl)) (notFace_of_selects (args := #[]) (mvT hZ (tw hw 44 rfl))) (mvT hZ (tw hw 44 rfl)) (mvT hZ (tw hw 43 rfl)) (by decide) (lenA (W := 1) hZ hw P7 P8 P9 P10 P11 (by decide) (by decide)) q1a q1c (g := (mkF m 85 #[rv u1, iv (Int32.ofNat u2), iv u3, iv 114] [(.ref u1), (.int (Int32.ofNat (u2 + 1)))])) rfl (by rw [hml]; rfl) (Steps.refl _) (argsL := []) (rest := [(.int (Int32.ofNat (u2 + 1)))]) (lenOf pd_19 rfl) rfl (Nat.le_of_eq rfl) (hb hby d39_85) (fun _ _ => ⟨rfl, e0, (by decide : 0 + 0 ≤ _), (by decide : 0 + 0 ≤ _)⟩)
  dsimp only [Pt.U, Pt.locs, Pt.cells, Pt.slots] at X1 l1 y1 z1 st1 hQ1
  subst l1 y1 z1
  obtain ⟨rfl, N1q, e1⟩ := hQ1
  have N1 := Fr.app N0 N1q
  obtain ⟨cq2, kq2, q2a, q2b, q2c⟩ := isOf hZ e1 P6
  obtain ⟨_, _, ⟨T2, L2, k2x, n2⟩, -, X2, ⟨Lc2, hQ2, l2, y2, z2⟩, st2⟩ := X1.virtualBack hx (y := mq20) (z := mq20) hown (mvT hZ (tw hw 195 rfl)) (mvT hZ (tw hw 67 rfl)) (notFace_of_selects (args := #[]) (mvT hZ (tw hw 69 rfl))) (mvT hZ (tw hw 69 rfl)) (mvT hZ (tw hw 68 rfl)) (by decide) (chA (W := 0) hZ hw P7 Z0 P8 P9 P10 P11 P13 (j := (Int32.ofNat u2)) rfl (by decide) (by decide)) q2a q2c (g := (mkF m 95 #[rv u1, iv (Int32.ofNat u2), iv u3, iv 114] [(.int (Int32.ofNat u2)), (.ref u1)])) rfl (by rw [hml]; rfl) (Steps.refl _) (argsL := [(.int (Int32.ofNat u2))]) (rest := []) (lenOf pd_29 rfl) rfl (Nat.le_of_eq rfl) (hb hby d39_95) (fun _ _ => ⟨rfl, e1, (by decide : 0 + 0 ≤ _), (by decide : 0 + 0 ≤ _)⟩)
  dsimp only [Pt.U, Pt.locs, Pt.cells, Pt.slots] at X2 l2 y2 z2 st2 hQ2
  subst l2 y2 z2
  obtain ⟨rfl, N2q, e2⟩ := hQ2
  have N2 := Fr.app N1 N2q
  obtain ⟨cq3, kq3, q3a, q3b, q3c⟩ := isOf hZ e2 P6
  obtain ⟨_, _, ⟨T3, L3, k3x, n3⟩, -, X3, ⟨Lc3, hQ3, l3, y3, z3⟩, st3⟩ := X2.virtualBack hx (y := mq20) (z := mq20) hown (mvT hZ (tw hw 195 rfl)) (mvT hZ (tw hw 67 rfl)) (notFace_of_selects (args := #[]) (mvT hZ (tw hw 69 rfl))) (mvT hZ (tw hw 69 rfl)) (mvT hZ (tw hw 68 rfl)) (by decide) (chA (W := 0) hZ hw P7 Z0 P8 P9 P10 P11 P15 (j := (Int32.ofNat (u2 + 1))) rfl (by decide) (by decide)) q3a q3c (g := (mkF m 107 #[rv u1, iv (Int32.ofNat u2), iv u3, iv 114] [(.int (Int32.ofNat (u2 + 1))), (.ref u1)])) rfl (by rw [hml]; rfl) (Steps.refl _) (argsL := [(.int (Int32.ofNat (u2 + 1)))]) (rest := []) (lenOf pd_29 rfl) rfl (Nat.le_of_eq rfl) (hb hby d39_107) (fun _ _ => ⟨rfl, e2, (by decide : 0 + 0 ≤ _), (by decide : 0 + 0 ≤ _)⟩)
  dsimp only [Pt.U, Pt.locs, Pt.cells, Pt.slots] at X3 l3 y3 z3 st3 hQ3
  subst l3 y3 z3
  obtain ⟨rfl, N3q, e3⟩ := hQ3
  have N3 := Fr.app N2 N3q
  obtain ⟨fs, hr, hrun, hended, hW, hsame⟩ := X3.leave (v := some (.int (Int32.ofNat (u2 + 2)))) (fun h => by rw [hre] at h; cases h)
  refine ⟨_, _, pre0 _ ?_, hrun, hended, _, _, rfl, ?_, ⟨_, rfl⟩, hW, hsame.mono (by decide) (by decide)⟩
  · show SF p e below s₁ (mkF m 0 #[rv u1, iv (Int32.ofNat u2), iv u3, .unset] []) _
    refine XS.iloadN X0.here hx rfl (hb hby d39_0) rfl ?_
    refine XS.ifYes X0.here hx rfl (pc0 := 1) (pc' := 6) rfl (hb hby d39_1) rfl ((if0 _ _).trans (flt P1).2.1) (by decide) (by decide) ?_
    refine XS.iloadN X0.here hx rfl (hb hby d39_6) rfl ?_
    refine XS.bipush X0.here hx rfl (hb hby d39_7) ?_
    refine XS.icmpYes X0.here hx rfl (pc0 := 9) (pc' := 18) rfl (hb hby d39_9) rfl (feq P2).2 (by decide) (by decide) ?_
    refine XS.iloadN X0.here hx rfl (hb hby d39_18) rfl ?_
    refine XS.bipush X0.here hx rfl (hb hby d39_19) ?_
    refine XS.icmpYes X0.here hx rfl (pc0 := 21) (pc' := 30) rfl (hb hby d39_21) rfl (feq P3).2 (by decide) (by decide) ?_
    refine XS.iloadN X0.here hx rfl (hb hby d39_30) rfl ?_
    refine XS.bipush X0.here hx rfl (hb hby d39_31) ?_
    refine XS.icmpYes X0.here hx rfl (pc0 := 33) (pc' := 42) rfl (hb hby d39_33) rfl (feq P4).2 (by decide) (by decide) ?_
    refine XS.iloadN X0.here hx rfl (hb hby d39_42) rfl ?_
    refine XS.bipush X0.here hx rfl (hb hby d39_43) ?_
    refine XS.icmpNo X0.here hx rfl (hb hby d39_45) rfl (teq P5).2 ?_
    refine XS.bipush X0.here hx rfl (hb hby d39_48) ?_
    refine XS.istoreN X0.here hx rfl (hb hby d39_50) rfl (l' := #[rv u1, iv (Int32.ofNat u2), iv u3, iv 114]) rfl ?_
    refine XS.goto X0.here hx rfl (pc0 := 51) (pc' := 81) rfl (hb hby d39_51) (by decide) (by decide) ?_
    refine XS.iloadN X0.here hx rfl (hb hby d39_81) rfl ?_
    refine XS.iconst X0.here hx rfl (hb hby d39_82) ?_
    refine XS.iadd X0.here hx rfl (hb hby d39_83) rfl ?_
    show SF p e below s₁ (mkF m 84 #[rv u1, iv (Int32.ofNat u2), iv u3, iv 114] [(.int ((Int32.ofNat u2) + (1 : Int32)))]) _
    rw [(show ((Int32.ofNat u2) + (1 : Int32)) = (Int32.ofNat (u2 + 1)) from own_addk _ 1)]
    refine XS.aloadN X0.here hx rfl (hb hby d39_84) rfl rfl ?_
    refine st1.trans ?_
    refine XS.icmpYes X1.here hx rfl (pc0 := 88) (pc' := 93) rfl (hb hby d39_88) rfl (tlt P12).1 (by decide) (by decide) ?_
    refine XS.aloadN X1.here hx rfl (hb hby d39_93) rfl rfl ?_
    refine XS.iloadN X1.here hx rfl (hb hby d39_94) rfl ?_
    refine st2.trans ?_
    refine XS.bipush X2.here hx rfl (hb hby d39_98) ?_
    refine XS.icmpNo X2.here hx rfl (hb hby d39_100) rfl (teq P14).2 ?_
    refine XS.aloadN X2.here hx rfl (hb hby d39_103) rfl rfl ?_
    refine XS.iloadN X2.here hx rfl (hb hby d39_104) rfl ?_
    refine XS.iconst X2.here hx rfl (hb hby d39_105) ?_
    refine XS.iadd X2.here hx rfl (hb hby d39_106) rfl ?_
    show SF p e below T2 (mkF m 107 #[rv u1, iv (Int32.ofNat u2), iv u3, iv 114] [(.int ((Int32.ofNat u2) + (1 : Int32))), (.ref u1)]) _
    rw [(show ((Int32.ofNat u2) + (1 : Int32)) = (Int32.ofNat (u2 + 1)) from own_addk _ 1)]
    refine st3.trans ?_
    refine XS.iloadN X3.here hx rfl (hb hby d39_110) rfl ?_
    refine XS.icmpNo X3.here hx rfl (hb hby d39_111) rfl (teq P16).2 ?_
    refine XS.iloadN X3.here hx rfl (hb hby d39_114) rfl ?_
    refine XS.iconst X3.here hx rfl (hb hby d39_115) ?_
    refine XS.iadd X3.here hx rfl (hb hby d39_116) rfl ?_
    show SF p e below T3 (mkF m 117 #[rv u1, iv (Int32.ofNat u2), iv u3, iv 114] [(.int ((Int32.ofNat u2) + (2 : Int32)))]) _
    rw [(show ((Int32.ofNat u2) + (2 : Int32)) = (Int32.ofNat (u2 + 2)) from own_addk _ 2)]
    refine XS.goto X3.here hx rfl (pc0 := 117) (pc' := 121) rfl (hb hby d39_117) (by decide) (by decide) ?_
    exact retI X3 hx hre (hb hby d39_121) hr
  · show Q39_69 Z u1 u2 u3 GC GF u4 u5 h0 n0 _ T3.heap _
    rw [e3]
    exact ⟨rfl, N3, rfl⟩
theorem d39_54 : D39 54 (.iload_n 1) 1 := by decide +kernel
theorem d39_55 : D39 55 (.aload_n 0) 1 := by decide +kernel
theorem d39_56 : D39 56 (.invokevirtual 7) 3 := by decide +kernel
theorem d39_59 : D39 59 (.if_icmp .lt 5) 3 := by decide +kernel
theorem d39_64 : D39 64 (.aload_n 0) 1 := by decide +kernel
theorem d39_65 : D39 65 (.iload_n 1) 1 := by decide +kernel
theorem d39_66 : D39 66 (.invokevirtual 13) 3 := by decide +kernel
theorem d39_69 : D39 69 (.iload_n 2) 1 := by decide +kernel
theorem d39_70 : D39 70 (.if_icmp .ne 9) 3 := by decide +kernel
theorem d39_73 : D39 73 (.iload_n 1) 1 := by decide +kernel
theorem d39_74 : D39 74 (.iconst 1) 1 := by decide +kernel
theorem d39_75 : D39 75 (.iadd) 1 := by decide +kernel
theorem d39_76 : D39 76 (.goto 4) 3 := by decide +kernel
theorem d39_80 : D39 80 (.ireturn) 1 := by decide +kernel
def Q39_70 (Z : State) (u1 : Addr) (u2 : Nat) (u3 : Int32) (GC : Int32) (GF : Value) (u4 : Addr) (u5 : List Int32) (h0 : Heap) (n0 : Nat) (v : Option Value) (h : Heap) (L : List Loc) : Prop := v = some (.int (Int32.ofNat (u2 + 1))) ∧ Fr n0 L ∧ h = h0
theorem rm39_70 (l : Launch) (Z : State) (a0 : Array Value) (hw : HW Z a0) (ws : List Jvm.Cond) (u1 : Addr) (u2 : Nat) (u3 : Int32) (GC : Int32) (GF : Value) (u4 : Addr) (u5 : List Int32) (h0 : Heap) (n0 : Nat) (Z0 : n0 ≤ h0.size) (P1 : ¬ ((Int32.ofNat u2) < (0 : Int32))) (P2 : ¬ (u3 = (92 : Int32))) (P3 : ¬ (u3 = (9 : Int32))) (P4 : ¬ (u3 = (10 : Int32))) (P5 : ¬ (u3 = (13 : Int32))) (P6 : Exa Z h0 u1 sq3) (P7 : St Z GC GF) (P8 : Old Z n0 h0) (P9 : Str Z h0 u1 u4 u5) (P10 : ∀ c ∈ u5, ¬ c < 0 ∧ ¬ (65535 : Int32) < c) (P11 : u5.length < 7) (P12 : (Int32.ofNat u2) < (Int32.ofNat u5.length)) (P13 : u2 < u5.length) (P14 : (u5.getD u2 0) = u3) :
    MF l Z mq2 (Jvm.Cond.code mq2 method_3_code 4 (some .int)) ws rq20 #[(.ref u1), (.int (Int32.ofNat u2)), (.int u3)] h0 (Q39_70 Z u1 u2 u3 GC GF u4 u5 h0 n0) := by
  refine own_enter (plainFor_of_name pn_8) fun p e s m below meth c s₁ X0 hx hby hml hown hnm hZ e0 hre hlk => ?_
  have N0 := Fr.nil n0
  have pre0 : ∀ t, SF p e below s₁ (mkF m 0 #[rv u1, iv (Int32.ofNat u2), iv u3, .unset] []) t → SF p e below s₁ (entryFrame m #[(.ref u1), (.int (Int32.ofNat u2)), (.int u3)] 4) t := fun t k => castTop (ef_46 m u1 (Int32.ofNat u2) u3) k
  obtain ⟨cq1, kq1, q1a, q1b, q1c⟩ := isOf hZ e0 P6
  obtain ⟨_, _, ⟨T1, L1, k1x, n1⟩, -, X1, ⟨Lc1, hQ1, l1, y1, z1⟩, st1⟩ := X0.virtualBack hx (y := mq26) (z := mq26) hown (mvT hZ (tw hw 194 rfl)) (mvT hZ (tw hw 42 rfl)) (notFace_of_selects (args := #[]) (mvT hZ (tw hw 44 rfl))) (mvT hZ (tw hw 44 rfl)) (mvT hZ (tw hw 43 rfl)) (by decide) (lenA (W := 1) hZ hw P7 P8 P9 P10 P11 (by decide) (by decide)) q1a q1c (g := (mkF m 56 #[rv u1, iv (Int32.ofNat u2), iv u3, .unset] [(.ref u1), (.int (Int32.ofNat u2))])) rfl (by rw [hml]; rfl) (Steps.refl _) (argsL := []) (rest := [(.int (Int32.ofNat u2))]) (lenOf pd_19 rfl) rfl (Nat.le_of_eq rfl) (hb hby d39_56) (fun _ _ => ⟨rfl, e0, (by decide : 0 + 0 ≤ _), (by decide : 0 + 0 ≤ _)⟩)
  dsimp only [Pt.U, Pt.locs, Pt.cells, Pt.slots] at X1 l1 y1 z1 st1 hQ1
  subst l1 y1 z1
  obtain ⟨rfl, N1q, e1⟩ := hQ1
  have N1 := Fr.app N0 N1q
  obtain ⟨cq2, kq2, q2a, q2b, q2c⟩ := isOf hZ e1 P6
  obtain ⟨_, _, ⟨T2, L2, k2x, n2⟩, -, X2, ⟨Lc2, hQ2, l2, y2, z2⟩, st2⟩ := X1.virtualBack hx (y := mq20) (z := mq20) hown (mvT hZ (tw hw 195 rfl)) (mvT hZ (tw hw 67 rfl)) (notFace_of_selects (args := #[]) (mvT hZ (tw hw 69 rfl))) (mvT hZ (tw hw 69 rfl)) (mvT hZ (tw hw 68 rfl)) (by decide) (chA (W := 0) hZ hw P7 Z0 P8 P9 P10 P11 P13 (j := (Int32.ofNat u2)) rfl (by decide) (by decide)) q2a q2c (g := (mkF m 66 #[rv u1, iv (Int32.ofNat u2), iv u3, .unset] [(.int (Int32.ofNat u2)), (.ref u1)])) rfl (by rw [hml]; rfl) (Steps.refl _) (argsL := [(.int (Int32.ofNat u2))]) (rest := []) (lenOf pd_29 rfl) rfl (Nat.le_of_eq rfl) (hb hby d39_66) (fun _ _ => ⟨rfl, e1, (by decide : 0 + 0 ≤ _), (by decide : 0 + 0 ≤ _)⟩)
  dsimp only [Pt.U, Pt.locs, Pt.cells, Pt.slots] at X2 l2 y2 z2 st2 hQ2
  subst l2 y2 z2
  obtain ⟨rfl, N2q, e2⟩ := hQ2
  have N2 := Fr.app N1 N2q
  obtain ⟨fs, hr, hrun, hended, hW, hsame⟩ := X2.leave (v := some (.int (Int32.ofNat (u2 + 1)))) (fun h => by rw [hre] at h; cases h)
  refine ⟨_, _, pre0 _ ?_, hrun, hended, _, _, rfl, ?_, ⟨_, rfl⟩, hW, hsame.mono (by decide) (by decide)⟩
  · show SF p e below s₁ (mkF m 0 #[rv u1, iv (Int32.ofNat u2), iv u3, .unset] []) _
    refine XS.iloadN X0.here hx rfl (hb hby d39_0) rfl ?_
    refine XS.ifYes X0.here hx rfl (pc0 := 1) (pc' := 6) rfl (hb hby d39_1) rfl ((if0 _ _).trans (flt P1).2.1) (by decide) (by decide) ?_
    refine XS.iloadN X0.here hx rfl (hb hby d39_6) rfl ?_
    refine XS.bipush X0.here hx rfl (hb hby d39_7) ?_
    refine XS.icmpYes X0.here hx rfl (pc0 := 9) (pc' := 18) rfl (hb hby d39_9) rfl (feq P2).2 (by decide) (by decide) ?_
    refine XS.iloadN X0.here hx rfl (hb hby d39_18) rfl ?_
    refine XS.bipush X0.here hx rfl (hb hby d39_19) ?_
    refine XS.icmpYes X0.here hx rfl (pc0 := 21) (pc' := 30) rfl (hb hby d39_21) rfl (feq P3).2 (by decide) (by decide) ?_
    refine XS.iloadN X0.here hx rfl (hb hby d39_30) rfl ?_
    refine XS.bipush X0.here hx rfl (hb hby d39_31) ?_
    refine XS.icmpYes X0.here hx rfl (pc0 := 33) (pc' := 42) rfl (hb hby d39_33) rfl (feq P4).2 (by decide) (by decide) ?_
    refine XS.iloadN X0.here hx rfl (hb hby d39_42) rfl ?_
    refine XS.bipush X0.here hx rfl (hb hby d39_43) ?_
    refine XS.icmpYes X0.here hx rfl (pc0 := 45) (pc' := 54) rfl (hb hby d39_45) rfl (feq P5).2 (by decide) (by decide) ?_
    refine XS.iloadN X0.here hx rfl (hb hby d39_54) rfl ?_
    refine XS.aloadN X0.here hx rfl (hb hby d39_55) rfl rfl ?_
    refine st1.trans ?_
    refine XS.icmpYes X1.here hx rfl (pc0 := 59) (pc' := 64) rfl (hb hby d39_59) rfl (tlt P12).1 (by decide) (by decide) ?_
    refine XS.aloadN X1.here hx rfl (hb hby d39_64) rfl rfl ?_
    refine XS.iloadN X1.here hx rfl (hb hby d39_65) rfl ?_
    refine st2.trans ?_
    refine XS.iloadN X2.here hx rfl (hb hby d39_69) rfl ?_
    refine XS.icmpNo X2.here hx rfl (hb hby d39_70) rfl (teq P14).2 ?_
    refine XS.iloadN X2.here hx rfl (hb hby d39_73) rfl ?_
    refine XS.iconst X2.here hx rfl (hb hby d39_74) ?_
    refine XS.iadd X2.here hx rfl (hb hby d39_75) rfl ?_
    show SF p e below T2 (mkF m 76 #[rv u1, iv (Int32.ofNat u2), iv u3, .unset] [(.int ((Int32.ofNat u2) + (1 : Int32)))]) _
    rw [(show ((Int32.ofNat u2) + (1 : Int32)) = (Int32.ofNat (u2 + 1)) from own_addk _ 1)]
    refine XS.goto X2.here hx rfl (pc0 := 76) (pc' := 80) rfl (hb hby d39_76) (by decide) (by decide) ?_
    exact retI X2 hx hre (hb hby d39_80) hr
  · show Q39_70 Z u1 u2 u3 GC GF u4 u5 h0 n0 _ T2.heap _
    rw [e2]
    exact ⟨rfl, N2, rfl⟩
theorem stp (l : Launch) (Z : State) (a0 : Array Value) (hw : HW Z a0) (ws : List Jvm.Cond) (GC : Int32) (GF : Value) (sta stb : Addr) (osa pre suf : List Int32) (ca : Int32) (h0 : Heap) (n0 : Nat) (Z0 : n0 ≤ h0.size) (S : St Z GC GF) (O : Old Z n0 h0) (B : Str Z h0 sta stb osa) (hb : ∀ c ∈ osa, ¬ c < 0 ∧ ¬ (65535 : Int32) < c) (hk : osa.length < 7) (he : osa = pre ++ enc ca ++ suf) :
    MF l Z mq2 (Jvm.Cond.code mq2 method_3_code 4 (some .int)) ws rq20 #[(.ref sta), (.int (Int32.ofNat pre.length)), (.int ca)] h0 (fun v h L => v = some (.int (Int32.ofNat (pre.length + (enc ca).length))) ∧ Fr n0 L ∧ h = h0) := by
  by_cases h1 : ca = (92 : Int32)
  · have ee : enc ca = [92, 92] := by subst h1; rfl
    rw [ee] at he ⊢
    have hl : osa.length = pre.length + 2 + suf.length := by rw [he]; simp; omega
    have g0 : osa.getD pre.length 0 = 92 := by rw [he]; exact own_mid pre [92, 92] 0 (by decide) suf
    have g1 : osa.getD (pre.length + 1) 0 = 92 := by rw [he]; exact own_mid pre [92, 92] 1 (by decide) suf
    exact own_mf (rm39_66 l Z a0 hw ws sta pre.length ca GC GF stb osa h0 n0 Z0 (Jvm.Free.XT.nlt32 (b := 0) (by omega) (by omega)) h1 (B.choose_spec.choose_spec.choose_spec.choose_spec.1) S O B hb hk (Jvm.Free.XT.lt32 (by omega) (by omega)) (by omega) g0 (by omega) g1) fun v h L q => q
  by_cases h2 : ca = (9 : Int32)
  · have ee : enc ca = [92, 116] := by subst h2; rfl
    rw [ee] at he ⊢
    have hl : osa.length = pre.length + 2 + suf.length := by rw [he]; simp; omega
    have g0 : osa.getD pre.length 0 = 92 := by rw [he]; exact own_mid pre [92, 116] 0 (by decide) suf
    have g1 : osa.getD (pre.length + 1) 0 = 116 := by rw [he]; exact own_mid pre [92, 116] 1 (by decide) suf
    exact own_mf (rm39_67 l Z a0 hw ws sta pre.length ca GC GF stb osa h0 n0 Z0 (Jvm.Free.XT.nlt32 (b := 0) (by omega) (by omega)) h1 h2 (B.choose_spec.choose_spec.choose_spec.choose_spec.1) S O B hb hk (Jvm.Free.XT.lt32 (by omega) (by omega)) (by omega) g0 (by omega) g1) fun v h L q => q
  by_cases h3 : ca = (10 : Int32)
  · have ee : enc ca = [92, 110] := by subst h3; rfl
    rw [ee] at he ⊢
    have hl : osa.length = pre.length + 2 + suf.length := by rw [he]; simp; omega
    have g0 : osa.getD pre.length 0 = 92 := by rw [he]; exact own_mid pre [92, 110] 0 (by decide) suf
    have g1 : osa.getD (pre.length + 1) 0 = 110 := by rw [he]; exact own_mid pre [92, 110] 1 (by decide) suf
    exact own_mf (rm39_68 l Z a0 hw ws sta pre.length ca GC GF stb osa h0 n0 Z0 (Jvm.Free.XT.nlt32 (b := 0) (by omega) (by omega)) h1 h2 h3 (B.choose_spec.choose_spec.choose_spec.choose_spec.1) S O B hb hk (Jvm.Free.XT.lt32 (by omega) (by omega)) (by omega) g0 (by omega) g1) fun v h L q => q
  by_cases h4 : ca = (13 : Int32)
  · have ee : enc ca = [92, 114] := by subst h4; rfl
    rw [ee] at he ⊢
    have hl : osa.length = pre.length + 2 + suf.length := by rw [he]; simp; omega
    have g0 : osa.getD pre.length 0 = 92 := by rw [he]; exact own_mid pre [92, 114] 0 (by decide) suf
    have g1 : osa.getD (pre.length + 1) 0 = 114 := by rw [he]; exact own_mid pre [92, 114] 1 (by decide) suf
    exact own_mf (rm39_69 l Z a0 hw ws sta pre.length ca GC GF stb osa h0 n0 Z0 (Jvm.Free.XT.nlt32 (b := 0) (by omega) (by omega)) h1 h2 h3 h4 (B.choose_spec.choose_spec.choose_spec.choose_spec.1) S O B hb hk (Jvm.Free.XT.lt32 (by omega) (by omega)) (by omega) g0 (by omega) g1) fun v h L q => q
  have ee : enc ca = [ca] := by simp only [enc]; rw [if_neg h1, if_neg h2, if_neg h3, if_neg h4]
  rw [ee] at he ⊢
  have hl : osa.length = pre.length + 1 + suf.length := by rw [he]; simp; omega
  have g0 : osa.getD pre.length 0 = ca := by rw [he]; exact own_mid pre [ca] 0 (by simp) suf
  exact own_mf (rm39_70 l Z a0 hw ws sta pre.length ca GC GF stb osa h0 n0 Z0 (Jvm.Free.XT.nlt32 (b := 0) (by omega) (by omega)) h1 h2 h3 h4 (B.choose_spec.choose_spec.choose_spec.choose_spec.1) S O B hb hk (Jvm.Free.XT.lt32 (by omega) (by omega)) (by omega) g0) fun v h L q => q
def own_ci (cs : List Int32) : List Value := cs.map Value.int
theorem own_ci_get (cs : List Int32) (i : Nat) (h : i < cs.length) (h7 : i < 2 ^ 31) : (own_ci cs).getD (Int32.ofNat i).toNatClampNeg (.int 0) = .int (cs.getD i 0) := by
  rw [Int32.toNatClampNeg_ofNat_of_lt h7]; simp [own_ci, List.getD_eq_getElem?_getD, h]
theorem own_inb {k n : Nat} (h : k < n) (hn : n < 1000) : ¬ Int32.ofNat k < 0 ∧ Int32.ofNat k < Int32.ofNat n := ⟨Jvm.Free.XT.nlt32 (b := 0) (by omega) (by omega), Jvm.Free.XT.lt32 (by omega) h⟩
abbrev D6 (n : Nat) (i : Instr) (k : Nat) : Prop := decode jdk_52_method_21_code n = .ok (i, k)
theorem d6_3 : D6 3 (.iload 5) 2 := by decide +kernel
theorem d6_5 : D6 5 (.iload 4) 2 := by decide +kernel
theorem d6_7 : D6 7 (.if_icmp .ge 37) 3 := by decide +kernel
theorem d6_10 : D6 10 (.aload_n 0) 1 := by decide +kernel
theorem d6_11 : D6 11 (.iload_n 1) 1 := by decide +kernel
theorem d6_12 : D6 12 (.caload) 1 := by decide +kernel
theorem d6_13 : D6 13 (.istore 6) 2 := by decide +kernel
theorem d6_15 : D6 15 (.iload 6) 2 := by decide +kernel
theorem d6_17 : D6 17 (.sipush 255) 3 := by decide +kernel
theorem d6_20 : D6 20 (.if_icmp .le 6) 3 := by decide +kernel
theorem d6_26 : D6 26 (.aload_n 2) 1 := by decide +kernel
theorem d6_27 : D6 27 (.iload_n 3) 1 := by decide +kernel
theorem d6_28 : D6 28 (.iload 6) 2 := by decide +kernel
theorem d6_30 : D6 30 (.i2b) 1 := by decide +kernel
theorem d6_31 : D6 31 (.bastore) 1 := by decide +kernel
theorem d6_32 : D6 32 (.iinc 1 1) 3 := by decide +kernel
theorem d6_35 : D6 35 (.iinc 3 1) 3 := by decide +kernel
theorem d6_38 : D6 38 (.iinc 5 1) 3 := by decide +kernel
theorem d6_41 : D6 41 (.goto (-38)) 3 := by decide +kernel
theorem ef_47 (m : MethodId) (x0 : Addr) (x1 : Int32) (x2 : Addr) (x3 : Int32) (x4 : Int32) : entryFrame m #[(.ref x0), (.int x1), (.ref x2), (.int x3), (.int x4)] 7 = mkF m 0 #[.val (.ref x0), .val (.int x1), .val (.ref x2), .val (.int x3), .val (.int x4), .unset, .unset] [] := by first | (simp [entryFrame, mkF, argsToLocals, Value.category]; done) | rfl
theorem c5T {p : Program} {l : Launch} {e : Env} {s : State} {m : MethodId} {below : List Frame} {meth : Method} {c : Code} {T0 : State} {locs : List Loc} {Z : State} {a0 : Array Value} {h0 : Heap} {n0 : Nat} {Qa : Option Value → Heap → List Loc → Prop} {vaa : Addr} {daa : Addr} {csa : List Int32} {ia : Nat} {kva : ClassId} {el1 : Int32} {z6 : Slot} {kda : ClassId} {wda : List Value} (X0 : Stand p l e rq5 s m #[(.ref vaa), (.int 0), (.ref daa), (.int 0), (.int (Int32.ofNat csa.length))] below meth c T0 locs 0 0) (hx : p.tables.exec = Jvm.exec) (hZ : Z.Warmed39 s.vm) (hw : HW Z a0) (hby : c.code = jdk_52_method_21_code) (hml : c.maxLocals = 7) (hown : s.vm.findClass sq5 = some m.cls) (hnm : meth.name = "compress") (hre : meth.sig.returnType = some .int) (hlk : meth.locks = false) (e0 : T0.heap = h0) (N0 : Fr n0 locs) (Z0 : n0 ≤ h0.size) (P1 : (Int32.ofNat ia) < (Int32.ofNat csa.length)) (P2 : Arv Z h0 vaa kva .char (Int32.ofNat csa.length) (own_ci csa) (.int (0 : Int32))) (P3 : ¬ (Int32.ofNat ia) < 0 ∧ (Int32.ofNat ia) < (Int32.ofNat csa.length)) (P4 : (own_ci csa).getD ((Int32.ofNat ia)).toNatClampNeg (.int 0) = (.int el1)) (P5 : z6 = Slot.unset ∨ ∃ x : Int32, z6 = iv x) (P6 : ¬ ((255 : Int32) < el1)) (P7 : Arv Z h0 daa kda .byte (Int32.ofNat csa.length) wda (.int (0 : Int32))) (P8 : Exa Z h0 daa "[B") (P9 : n0 ≤ daa) (P10 : ((Int32.ofNat ia)).toNatClampNeg = wda.length) (P11 : vaa ≠ daa) (kk : ∀ (T1 : State) (L1 : List Loc) (h1 : Heap), Stand p l e rq5 s m #[(.ref vaa), (.int 0), (.ref daa), (.int 0), (.int (Int32.ofNat csa.length))] below meth c T1 L1 0 0 → T1.heap = h1 → Fr n0 L1 → n0 ≤ h1.size → Keep h0 h1 [daa] → Arv Z h1 vaa kva .char (Int32.ofNat csa.length) (own_ci csa) (.int (0 : Int32)) → Arv Z h1 daa kda .byte (Int32.ofNat csa.length) (wda ++ [(Value.int (nar .byte (el1.toInt8.toInt32)))]) (.int (0 : Int32)) → Exa Z h1 daa "[B" → Fin p e below s 0 0 Qa (T1.setTop (mkF m 3 #[rv vaa, iv ((Int32.ofNat ia) + (1 : Int32)), rv daa, iv ((Int32.ofNat ia) + (1 : Int32)), iv (Int32.ofNat csa.length), iv ((Int32.ofNat ia) + (1 : Int32)), iv el1] []))) :
    Fin p e below s 0 0 Qa (T0.setTop (mkF m 3 #[rv vaa, iv (Int32.ofNat ia), rv daa, iv (Int32.ofNat ia), iv (Int32.ofNat csa.length), iv (Int32.ofNat ia), z6] [])) := by
  obtain ⟨cl1, Ar1, q1, S1, N1z, H1, G1⟩ := id P2
  have hin1 : ¬ ((Int32.ofNat ia) < 0 ∨ cl1.slots.size ≤ ((Int32.ofNat ia)).toNatClampNeg) := inb_of S1 P3
  have hat1 : cl1.slots[((Int32.ofNat ia)).toNatClampNeg]? = some (.int el1) := Has.at H1 hin1 P4
  obtain ⟨cl2, Ar2, q2, S2, N2z, H2, G2⟩ := id P7
  have hin2 : ¬ ((Int32.ofNat ia) < 0 ∨ cl2.slots.size ≤ ((Int32.ofNat ia)).toNatClampNeg) := inb_of S2 P3
  obtain ⟨T3, h3, X3, e3, W3, st3⟩ := stB X0 hx hZ e0 Ar2 (j := (Int32.ofNat ia)) hin2 (g := (mkF m 31 #[rv vaa, iv (Int32.ofNat ia), rv daa, iv (Int32.ofNat ia), iv (Int32.ofNat csa.length), iv (Int32.ofNat ia), iv el1] [(.int (el1.toInt8.toInt32)), (.int (Int32.ofNat ia)), (.ref daa)])) rfl rfl (hb hby d6_31)
  have K3 : Keep h0 h3 [daa] := (Keep.refl h0 [daa]).wr W3 (Or.inl (List.mem_of_getElem? (i := 0) rfl))
  have N3 := Fr.snoc X3 N0 P9
  have V3 : Arv Z h3 daa kda .byte (Int32.ofNat csa.length) (wda ++ [(Value.int (nar .byte (el1.toInt8.toInt32)))]) (.int (0 : Int32)) := own_push P7 (fits_nar_byte _) W3 P10
  have F1_4 : Arv Z h3 vaa kva .char (Int32.ofNat csa.length) (own_ci csa) (.int (0 : Int32)) := P2.other W3 P11
  have F1_5 : Exa Z h3 daa "[B" := P8.wr W3
  have Z3 : n0 ≤ h3.size := Nat.le_trans Z0 (Keep.of_wr W3).1
  refine Fin.pre (fun t k => ?_) (kk _ _ _ X3 e3 N3 Z3 K3 F1_4 V3 F1_5)
  show SF p e below T0 (mkF m 3 #[rv vaa, iv (Int32.ofNat ia), rv daa, iv (Int32.ofNat ia), iv (Int32.ofNat csa.length), iv (Int32.ofNat ia), z6] []) _
  refine XS.iload X0.here hx rfl (hb hby d6_3) rfl ?_
  refine XS.iload X0.here hx rfl (hb hby d6_5) rfl ?_
  refine XS.icmpNo X0.here hx rfl (hb hby d6_7) rfl (tlt P1).2.1 ?_
  refine XS.aloadN X0.here hx rfl (hb hby d6_10) rfl rfl ?_
  refine XS.iloadN X0.here hx rfl (hb hby d6_11) rfl ?_
  refine X0.caload hx (j := (Int32.ofNat ia)) (v := (.int el1)) (by rw [e0]; exact Ar1.1) (State.isArrayOf_alike hZ.alike Ar1.2.1) Ar1.2.2 hin1 hat1 (g := (mkF m 12 #[rv vaa, iv (Int32.ofNat ia), rv daa, iv (Int32.ofNat ia), iv (Int32.ofNat csa.length), iv (Int32.ofNat ia), z6] [(.int (Int32.ofNat ia)), (.ref vaa)])) rfl rfl (hb hby d6_12) _ ?_
  refine XS.istore X0.here hx rfl (hb hby d6_13) rfl (l' := #[rv vaa, iv (Int32.ofNat ia), rv daa, iv (Int32.ofNat ia), iv (Int32.ofNat csa.length), iv (Int32.ofNat ia), iv el1]) (by rcases P5 with h | ⟨_, h⟩ <;> subst h <;> rfl) ?_
  refine XS.iload X0.here hx rfl (hb hby d6_15) rfl ?_
  refine XS.sipush X0.here hx rfl (hb hby d6_17) ?_
  refine XS.icmpYes X0.here hx rfl (pc0 := 20) (pc' := 26) rfl (hb hby d6_20) rfl (flt P6).2.2.2 (by decide) (by decide) ?_
  refine XS.aloadN X0.here hx rfl (hb hby d6_26) rfl rfl ?_
  refine XS.iloadN X0.here hx rfl (hb hby d6_27) rfl ?_
  refine XS.iload X0.here hx rfl (hb hby d6_28) rfl ?_
  refine XS.i2b X0.here hx rfl (hb hby d6_30) rfl ?_
  refine st3 _ ?_
  refine XS.iinc X3.here hx rfl (hb hby d6_32) rfl (l' := #[rv vaa, iv ((Int32.ofNat ia) + (1 : Int32)), rv daa, iv (Int32.ofNat ia), iv (Int32.ofNat csa.length), iv (Int32.ofNat ia), iv el1]) rfl ?_
  refine XS.iinc X3.here hx rfl (hb hby d6_35) rfl (l' := #[rv vaa, iv ((Int32.ofNat ia) + (1 : Int32)), rv daa, iv ((Int32.ofNat ia) + (1 : Int32)), iv (Int32.ofNat csa.length), iv (Int32.ofNat ia), iv el1]) rfl ?_
  refine XS.iinc X3.here hx rfl (hb hby d6_38) rfl (l' := #[rv vaa, iv ((Int32.ofNat ia) + (1 : Int32)), rv daa, iv ((Int32.ofNat ia) + (1 : Int32)), iv (Int32.ofNat csa.length), iv ((Int32.ofNat ia) + (1 : Int32)), iv el1]) rfl ?_
  refine XS.goto X3.here hx rfl (pc0 := 41) (pc' := 3) rfl (hb hby d6_41) (by decide) (by decide) ?_
  exact k
theorem d6_23 : D6 23 (.iload 5) 2 := by decide +kernel
theorem d6_25 : D6 25 (.ireturn) 1 := by decide +kernel
theorem c5F {p : Program} {l : Launch} {e : Env} {s : State} {m : MethodId} {below : List Frame} {meth : Method} {c : Code} {T0 : State} {locs : List Loc} {Z : State} {a0 : Array Value} {h0 : Heap} {n0 : Nat} {Qa : Option Value → Heap → List Loc → Prop} {vaa : Addr} {daa : Addr} {csa : List Int32} {ia : Nat} {kva : ClassId} {el1 : Int32} {z6 : Slot} (X0 : Stand p l e rq5 s m #[(.ref vaa), (.int 0), (.ref daa), (.int 0), (.int (Int32.ofNat csa.length))] below meth c T0 locs 0 0) (hx : p.tables.exec = Jvm.exec) (hZ : Z.Warmed39 s.vm) (hw : HW Z a0) (hby : c.code = jdk_52_method_21_code) (hml : c.maxLocals = 7) (hown : s.vm.findClass sq5 = some m.cls) (hnm : meth.name = "compress") (hre : meth.sig.returnType = some .int) (hlk : meth.locks = false) (e0 : T0.heap = h0) (N0 : Fr n0 locs) (Z0 : n0 ≤ h0.size) (P1 : (Int32.ofNat ia) < (Int32.ofNat csa.length)) (P2 : Arv Z h0 vaa kva .char (Int32.ofNat csa.length) (own_ci csa) (.int (0 : Int32))) (P3 : ¬ (Int32.ofNat ia) < 0 ∧ (Int32.ofNat ia) < (Int32.ofNat csa.length)) (P4 : (own_ci csa).getD ((Int32.ofNat ia)).toNatClampNeg (.int 0) = (.int el1)) (P5 : z6 = Slot.unset ∨ ∃ x : Int32, z6 = iv x) (P6 : (255 : Int32) < el1) (P7 : Exa Z h0 daa "[B") (kq : ∀ (h1 : Heap) (L1 : List Loc), Fr n0 L1 → Keep h0 h1 [] → Exa Z h1 daa "[B" → Qa (some (.int (Int32.ofNat ia))) h1 L1) :
    Fin p e below s 0 0 Qa (T0.setTop (mkF m 3 #[rv vaa, iv (Int32.ofNat ia), rv daa, iv (Int32.ofNat ia), iv (Int32.ofNat csa.length), iv (Int32.ofNat ia), z6] [])) := by
  obtain ⟨cl1, Ar1, q1, S1, N1z, H1, G1⟩ := id P2
  have hin1 : ¬ ((Int32.ofNat ia) < 0 ∨ cl1.slots.size ≤ ((Int32.ofNat ia)).toNatClampNeg) := inb_of S1 P3
  have hat1 : cl1.slots[((Int32.ofNat ia)).toNatClampNeg]? = some (.int el1) := Has.at H1 hin1 P4
  obtain ⟨fs, hr, hrun, hended, hW, hsame⟩ := X0.leave (v := some (.int (Int32.ofNat ia))) (fun h => by rw [hre] at h; cases h)
  refine ⟨_, _, ?_, hrun, hended, _, _, rfl, ?_, ⟨_, rfl⟩, hW, hsame.mono (by decide) (by decide)⟩
  · show SF p e below T0 (mkF m 3 #[rv vaa, iv (Int32.ofNat ia), rv daa, iv (Int32.ofNat ia), iv (Int32.ofNat csa.length), iv (Int32.ofNat ia), z6] []) _
    refine XS.iload X0.here hx rfl (hb hby d6_3) rfl ?_
    refine XS.iload X0.here hx rfl (hb hby d6_5) rfl ?_
    refine XS.icmpNo X0.here hx rfl (hb hby d6_7) rfl (tlt P1).2.1 ?_
    refine XS.aloadN X0.here hx rfl (hb hby d6_10) rfl rfl ?_
    refine XS.iloadN X0.here hx rfl (hb hby d6_11) rfl ?_
    refine X0.caload hx (j := (Int32.ofNat ia)) (v := (.int el1)) (by rw [e0]; exact Ar1.1) (State.isArrayOf_alike hZ.alike Ar1.2.1) Ar1.2.2 hin1 hat1 (g := (mkF m 12 #[rv vaa, iv (Int32.ofNat ia), rv daa, iv (Int32.ofNat ia), iv (Int32.ofNat csa.length), iv (Int32.ofNat ia), z6] [(.int (Int32.ofNat ia)), (.ref vaa)])) rfl rfl (hb hby d6_12) _ ?_
    refine XS.istore X0.here hx rfl (hb hby d6_13) rfl (l' := #[rv vaa, iv (Int32.ofNat ia), rv daa, iv (Int32.ofNat ia), iv (Int32.ofNat csa.length), iv (Int32.ofNat ia), iv el1]) (by rcases P5 with h | ⟨_, h⟩ <;> subst h <;> rfl) ?_
    refine XS.iload X0.here hx rfl (hb hby d6_15) rfl ?_
    refine XS.sipush X0.here hx rfl (hb hby d6_17) ?_
    refine XS.icmpNo X0.here hx rfl (hb hby d6_20) rfl (tlt P6).2.2.2 ?_
    refine XS.iload X0.here hx rfl (hb hby d6_23) rfl ?_
    exact retI X0 hx hre (hb hby d6_25) hr
  · show Qa _ T0.heap _
    rw [e0]
    exact kq _ _ N0 (Keep.refl h0 []) P7
def Q5 (cs : List Int32) (daa : Addr) (h0 : Heap) (n0 : Nat) (v : Option Value) (h : Heap) (L : List Loc) : Prop := ∃ j : Nat, j < cs.length ∧ (255 : Int32) < cs.getD j 0 ∧ v = some (.int (Int32.ofNat j)) ∧ Fr n0 L ∧ Keep h0 h [daa]
theorem c5L {p : Program} {l : Launch} {e : Env} {s : State} {m : MethodId} {below : List Frame} {meth : Method} {c : Code} {Z : State} {a0 : Array Value} {n0 : Nat} (hx : p.tables.exec = Jvm.exec) (hZ : Z.Warmed39 s.vm) (hw : HW Z a0) (hby : c.code = jdk_52_method_21_code) (hml : c.maxLocals = 7) (hown : s.vm.findClass sq5 = some m.cls) (hnm : meth.name = "compress") (hre : meth.sig.returnType = some .int) (hlk : meth.locks = false)
    {vaa daa : Addr} {kva kda : ClassId} {cs : List Int32} {hh : Heap} (hk : cs.length < 7) (gd : n0 ≤ daa) (ne : vaa ≠ daa) :
    ∀ (r i : Nat) (T0 : State) (locs : List Loc) (h0 : Heap) (z6 : Slot) (wda : List Value), i + r = cs.length → (∃ c ∈ cs.drop i, (255 : Int32) < c) → (z6 = Slot.unset ∨ ∃ x : Int32, z6 = iv x) → wda.length = i → Stand p l e rq5 s m #[(.ref vaa), (.int 0), (.ref daa), (.int 0), (.int (Int32.ofNat cs.length))] below meth c T0 locs 0 0 → T0.heap = h0 → Fr n0 locs → n0 ≤ h0.size → Keep hh h0 [daa] → Arv Z h0 vaa kva .char (Int32.ofNat cs.length) (own_ci cs) (.int (0 : Int32)) → Arv Z h0 daa kda .byte (Int32.ofNat cs.length) wda (.int (0 : Int32)) → Exa Z h0 daa "[B" →
      Fin p e below s 0 0 (Q5 cs daa hh n0) (T0.setTop (mkF m 3 #[rv vaa, iv (Int32.ofNat i), rv daa, iv (Int32.ofNat i), iv (Int32.ofNat cs.length), iv (Int32.ofNat i), z6] [])) := by
  intro r
  induction r with
  | zero =>
    intro i T0 locs h0 z6 wda hi0 hex
    obtain ⟨c, hc, -⟩ := hex
    rw [List.drop_eq_nil_of_le (by omega)] at hc; cases hc
  | succ r ih =>
    intro i T0 locs h0 z6 wda hi0 hex hz hw1 X0 e0 N0 Z0 KK Av Ad Ed
    have hi : i < cs.length := by omega
    by_cases h255 : (255 : Int32) < cs.getD i 0
    · exact c5F (csa := cs) (ia := i) (el1 := cs.getD i 0) (z6 := z6) X0 hx hZ hw hby hml hown hnm hre hlk e0 N0 Z0 (own_inb hi (by omega)).2 Av (own_inb hi (by omega)) (own_ci_get cs i hi (by omega)) hz h255 Ed (fun h1 L1 N K E => ⟨i, hi, h255, rfl, N, KK.trans K (fun x hx => by cases hx)⟩)
    · refine c5T (csa := cs) (ia := i) (el1 := cs.getD i 0) (z6 := z6) X0 hx hZ hw hby hml hown hnm hre hlk e0 N0 Z0 (own_inb hi (by omega)).2 Av (own_inb hi (by omega)) (own_ci_get cs i hi (by omega)) hz h255 Ad Ed gd (by rw [hw1]; exact Int32.toNatClampNeg_ofNat_of_lt (by omega)) ne (fun T1 L1 h1 X1 e1 N1 z1 K1 Av1 Ad1 Ed1 => ?_)
      rw [Jvm.Free.XT.succ32]
      refine ih (i + 1) T1 L1 h1 _ _ (by omega) ?_ (Or.inr ⟨_, rfl⟩) ?_ X1 e1 N1 z1 (KK.trans K1 (fun x hx => Or.inl hx)) Av1 Ad1 Ed1
      · obtain ⟨c, hc, hc2⟩ := hex
        rw [List.drop_eq_getElem_cons hi] at hc
        rcases List.mem_cons.mp hc with q | q
        · exfalso; apply h255; rw [List.getD_eq_getElem?_getD, List.getElem?_eq_getElem hi]; rw [q] at hc2; exact hc2
        · exact ⟨c, q, hc2⟩
      · rw [List.length_append, hw1]; rfl
theorem d6_0 : D6 0 (.iconst 0) 1 := by decide +kernel
theorem d6_1 : D6 1 (.istore 5) 2 := by decide +kernel
theorem cm5 (l : Launch) (Z : State) (a0 : Array Value) (hw : HW Z a0) (ws : List Jvm.Cond) (vaa : Addr) (daa : Addr) (cs : List Int32) (kva : ClassId) (kda : ClassId) (h0 : Heap) (n0 : Nat) (Z0 : n0 ≤ h0.size) (P1 : Arv Z h0 vaa kva .char (Int32.ofNat cs.length) (own_ci cs) (.int (0 : Int32))) (P2 : Arv Z h0 daa kda .byte (Int32.ofNat cs.length) [] (.int (0 : Int32))) (P3 : Exa Z h0 daa "[B") (hk : cs.length < 7) (gd : n0 ≤ daa) (ne : vaa ≠ daa) (hex : ∃ c ∈ cs, (255 : Int32) < c) :
    MF l Z mq39 (Jvm.Cond.code mq39 jdk_52_method_21_code 7 (some .int)) ws rq5 #[(.ref vaa), (.int 0), (.ref daa), (.int 0), (.int (Int32.ofNat cs.length))] h0 (Q5 cs daa h0 n0) := by
  refine own_enter (plainFor_of_name pn_0) fun p e s m below meth c s₁ X0 hx hby hml hown hnm hZ e0 hre hlk => ?_
  have N0 := Fr.nil n0
  have pre0 : ∀ t, SF p e below s₁ (mkF m 0 #[rv vaa, iv 0, rv daa, iv 0, iv (Int32.ofNat cs.length), .unset, .unset] []) t → SF p e below s₁ (entryFrame m #[(.ref vaa), (.int 0), (.ref daa), (.int 0), (.int (Int32.ofNat cs.length))] 7) t := fun t k => castTop (ef_47 m vaa (0 : Int32) daa (0 : Int32) (Int32.ofNat cs.length)) k
  refine Fin.pre (fun t k => pre0 _ ?_) (c5L hx hZ hw hby hml hown hnm hre hlk hk gd ne cs.length 0 _ _ _ _ [] (Nat.zero_add _) hex (Or.inl rfl) rfl X0 e0 N0 Z0 (Keep.refl h0 [daa]) P1 P2 P3)
  show SF p e below s₁ (mkF m 0 #[rv vaa, iv 0, rv daa, iv 0, iv (Int32.ofNat cs.length), .unset, .unset] []) _
  refine XS.iconst X0.here hx rfl (hb hby d6_0) ?_
  refine XS.istore X0.here hx rfl (hb hby d6_1) rfl (l' := #[rv vaa, iv 0, rv daa, iv 0, iv (Int32.ofNat cs.length), iv 0, .unset]) rfl ?_
  exact k
abbrev D43 (n : Nat) (i : Instr) (k : Nat) : Prop := decode jdk_52_method_14_code n = .ok (i, k)
theorem d43_8 : D43 8 (.iload 4) 2 := by decide +kernel
theorem d43_10 : D43 10 (.iload_n 2) 1 := by decide +kernel
theorem d43_11 : D43 11 (.if_icmp .ge 21) 3 := by decide +kernel
theorem d43_14 : D43 14 (.aload_n 3) 1 := by decide +kernel
theorem d43_15 : D43 15 (.iload 4) 2 := by decide +kernel
theorem d43_17 : D43 17 (.aload_n 0) 1 := by decide +kernel
theorem d43_18 : D43 18 (.iload_n 1) 1 := by decide +kernel
theorem d43_19 : D43 19 (.caload) 1 := by decide +kernel
theorem d43_20 : D43 20 (.invokestatic 111) 3 := by decide +kernel
theorem d43_23 : D43 23 (.iinc 1 1) 3 := by decide +kernel
theorem d43_26 : D43 26 (.iinc 4 1) 3 := by decide +kernel
theorem d43_29 : D43 29 (.goto (-21)) 3 := by decide +kernel
theorem ef_48 (m : MethodId) (x0 : Addr) (x1 : Int32) (x2 : Int32) : entryFrame m #[(.ref x0), (.int x1), (.int x2)] 5 = mkF m 0 #[.val (.ref x0), .val (.int x1), .val (.int x2), .unset, .unset] [] := by first | (simp [entryFrame, mkF, argsToLocals, Value.category]; done) | rfl
theorem tbT {p : Program} {l : Launch} {e : Env} {s : State} {m : MethodId} {below : List Frame} {meth : Method} {c : Code} {T0 : State} {locs : List Loc} {Z : State} {a0 : Array Value} {h0 : Heap} {n0 : Nat} {Qa : Option Value → Heap → List Loc → Prop} {vaa : Addr} {csa : List Int32} {ia : Nat} {kva : ClassId} {el1 : Int32} {raa : Addr} {kra : ClassId} {wda : List Value} (X0 : Stand p l e rq13 s m #[(.ref vaa), (.int 0), (.int (Int32.ofNat csa.length))] below meth c T0 locs 1 6) (hx : p.tables.exec = Jvm.exec) (hZ : Z.Warmed39 s.vm) (hw : HW Z a0) (hby : c.code = jdk_52_method_14_code) (hml : c.maxLocals = 5) (hown : s.vm.findClass sq5 = some m.cls) (hnm : meth.name = "toBytes") (hre : meth.sig.returnType = some (.array .byte)) (hlk : meth.locks = false) (e0 : T0.heap = h0) (N0 : Fr n0 locs) (Z0 : n0 ≤ h0.size) (P1 : (Int32.ofNat ia) < (Int32.ofNat csa.length)) (P2 : Arv Z h0 vaa kva .char (Int32.ofNat csa.length) (own_ci csa) (.int (0 : Int32))) (P3 : ¬ (Int32.ofNat ia) < 0 ∧ (Int32.ofNat ia) < (Int32.ofNat csa.length)) (P4 : (own_ci csa).getD ((Int32.ofNat ia)).toNatClampNeg (.int 0) = (.int el1)) (P5 : Arv Z h0 raa kra .byte (Int32.ofNat (2 * csa.length)) wda (.int (0 : Int32))) (P6 : Exa Z h0 raa "[B") (Sg4 : Sta Z Z.heap sq5 "$assertionsDisabled" "Z" (.int 1)) (P8 : Old Z n0 h0) (Sg5 : Sta Z Z.heap sq5 "HI_BYTE_SHIFT" "I" (.int 0)) (P10 : ¬ ((Int32.ofNat ia) <<< ((1 : Int32) &&& 31)) < 0 ∧ ((Int32.ofNat ia) <<< ((1 : Int32) &&& 31)) < (Int32.ofNat (2 * csa.length))) (P11 : n0 ≤ raa) (P12 : (((Int32.ofNat ia) <<< ((1 : Int32) &&& 31))).toNatClampNeg = wda.length) (Sg6 : Sta Z Z.heap sq5 "LO_BYTE_SHIFT" "I" (.int 8)) (P14 : ¬ (((Int32.ofNat ia) <<< ((1 : Int32) &&& 31)) + (1 : Int32)) < 0 ∧ (((Int32.ofNat ia) <<< ((1 : Int32) &&& 31)) + (1 : Int32)) < (Int32.ofNat (2 * csa.length))) (P15 : ((((Int32.ofNat ia) <<< ((1 : Int32) &&& 31)) + (1 : Int32))).toNatClampNeg = (wda ++ [(Value.int (nar .byte ((el1 >>> ((0 : Int32) &&& 31)).toInt8.toInt32)))]).length) (P16 : vaa ≠ raa) (kk : ∀ (T1 : State) (L1 : List Loc) (h1 : Heap), Stand p l e rq13 s m #[(.ref vaa), (.int 0), (.int (Int32.ofNat csa.length))] below meth c T1 L1 1 6 → T1.heap = h1 → Fr n0 L1 → n0 ≤ h1.size → Keep h0 h1 [raa] → Arv Z h1 vaa kva .char (Int32.ofNat csa.length) (own_ci csa) (.int (0 : Int32)) → Arv Z h1 raa kra .byte (Int32.ofNat (2 * csa.length)) ((wda ++ [(Value.int (nar .byte ((el1 >>> ((0 : Int32) &&& 31)).toInt8.toInt32)))]) ++ [(Value.int (nar .byte ((el1 >>> ((8 : Int32) &&& 31)).toInt8.toInt32)))]) (.int (0 : Int32)) → Exa Z h1 raa "[B" → Fin p e below s 1 6 Qa (T1.setTop (mkF m 8 #[rv vaa, iv ((Int32.ofNat ia) + (1 : Int32)), iv (Int32.ofNat csa.length), rv raa, iv ((Int32.ofNat ia) + (1 : Int32))] []))) :
    Fin p e below s 1 6 Qa (T0.setTop (mkF m 8 #[rv vaa, iv (Int32.ofNat ia), iv (Int32.ofNat csa.length), rv raa, iv (Int32.ofNat ia)] [])) := by
  obtain ⟨cl1, Ar1, q1, S1, N1z, H1, G1⟩ := id P2
  have hin1 : ¬ ((Int32.ofNat ia) < 0 ∨ cl1.slots.size ≤ ((Int32.ofNat ia)).toNatClampNeg) := inb_of S1 P3
  have hat1 : cl1.slots[((Int32.ofNat ia)).toNatClampNeg]? = some (.int el1) := Has.at H1 hin1 P4
  obtain ⟨_, _, ⟨T2, L2, k2x, n2⟩, -, X2, ⟨Lc2, hQ2, l2, y2, z2⟩, st2⟩ := Jvm.LawKit.callS X0 hx (y := mq45) hown (mvT hZ (tw hw 231 rfl)) (mvT hZ (tw hw 232 rfl)) (mvT hZ (tw hw 21 rfl)) (mvT hZ (tw hw 233 rfl)) (by decide) (backOf (W := 0) (rm46_1 l Z a0 hw [] raa (Int32.ofNat ia) el1 kra (Int32.ofNat (2 * csa.length)) wda h0 n0 Z0 Sg4 P8 Sg5 P5 P6 P10 P11 P12 Sg6 P14 P15) hZ (tw hw 233 rfl) (tw hw 21 rfl) (by decide) (by decide)) (g := (mkF m 20 #[rv vaa, iv (Int32.ofNat ia), iv (Int32.ofNat csa.length), rv raa, iv (Int32.ofNat ia)] [(.int el1), (.int (Int32.ofNat ia)), (.ref raa)])) rfl (by rw [hml]; rfl) (argsL := [(.ref raa), (.int (Int32.ofNat ia)), (.int el1)]) (rest := []) (lenOf pd_0 rfl) rfl (Nat.le_of_eq rfl) (hb hby d43_20) (fun _ _ => ⟨rfl, e0, (by decide : 1 + 0 ≤ _), (by decide : 6 + 0 ≤ _)⟩)
  dsimp only [Pt.U, Pt.locs, Pt.cells, Pt.slots] at X2 l2 y2 z2 st2 hQ2
  subst l2 y2 z2
  obtain ⟨rfl, N2q, K2c, Fq2_0, Fq2_1⟩ := hQ2
  have K2 : Keep h0 T2.heap [raa] := (Keep.refl h0 [raa]).trans K2c (allS (Or.inl (List.mem_of_getElem? (i := 0) rfl)) all0)
  have V2 : Arv Z T2.heap raa kra .byte (Int32.ofNat (2 * csa.length)) ((wda ++ [(Value.int (nar .byte ((el1 >>> ((0 : Int32) &&& 31)).toInt8.toInt32)))]) ++ [(Value.int (nar .byte ((el1 >>> ((8 : Int32) &&& 31)).toInt8.toInt32)))]) (.int (0 : Int32)) := Fq2_0
  have N2 := Fr.app N0 N2q
  have F1_3 : Arv Z T2.heap vaa kva .char (Int32.ofNat csa.length) (own_ci csa) (.int (0 : Int32)) := P2.keep K2c (ninS P16 nin0)
  have Z2 : n0 ≤ T2.heap.size := Nat.le_trans Z0 K2c.1
  refine Fin.pre (fun t k => ?_) (kk _ _ _ X2 rfl N2 Z2 K2 F1_3 V2 Fq2_1)
  show SF p e below T0 (mkF m 8 #[rv vaa, iv (Int32.ofNat ia), iv (Int32.ofNat csa.length), rv raa, iv (Int32.ofNat ia)] []) _
  refine XS.iload X0.here hx rfl (hb hby d43_8) rfl ?_
  refine XS.iloadN X0.here hx rfl (hb hby d43_10) rfl ?_
  refine XS.icmpNo X0.here hx rfl (hb hby d43_11) rfl (tlt P1).2.1 ?_
  refine XS.aloadN X0.here hx rfl (hb hby d43_14) rfl rfl ?_
  refine XS.iload X0.here hx rfl (hb hby d43_15) rfl ?_
  refine XS.aloadN X0.here hx rfl (hb hby d43_17) rfl rfl ?_
  refine XS.iloadN X0.here hx rfl (hb hby d43_18) rfl ?_
  refine X0.caload hx (j := (Int32.ofNat ia)) (v := (.int el1)) (by rw [e0]; exact Ar1.1) (State.isArrayOf_alike hZ.alike Ar1.2.1) Ar1.2.2 hin1 hat1 (g := (mkF m 19 #[rv vaa, iv (Int32.ofNat ia), iv (Int32.ofNat csa.length), rv raa, iv (Int32.ofNat ia)] [(.int (Int32.ofNat ia)), (.ref vaa), (.int (Int32.ofNat ia)), (.ref raa)])) rfl rfl (hb hby d43_19) _ ?_
  refine st2 _ ?_
  refine XS.iinc X2.here hx rfl (hb hby d43_23) rfl (l' := #[rv vaa, iv ((Int32.ofNat ia) + (1 : Int32)), iv (Int32.ofNat csa.length), rv raa, iv (Int32.ofNat ia)]) rfl ?_
  refine XS.iinc X2.here hx rfl (hb hby d43_26) rfl (l' := #[rv vaa, iv ((Int32.ofNat ia) + (1 : Int32)), iv (Int32.ofNat csa.length), rv raa, iv ((Int32.ofNat ia) + (1 : Int32))]) rfl ?_
  refine XS.goto X2.here hx rfl (pc0 := 29) (pc' := 8) rfl (hb hby d43_29) (by decide) (by decide) ?_
  exact k
theorem d43_32 : D43 32 (.aload_n 3) 1 := by decide +kernel
theorem d43_33 : D43 33 (.areturn) 1 := by decide +kernel
theorem tbX {p : Program} {l : Launch} {e : Env} {s : State} {m : MethodId} {below : List Frame} {meth : Method} {c : Code} {T0 : State} {locs : List Loc} {Z : State} {a0 : Array Value} {h0 : Heap} {n0 : Nat} {Qa : Option Value → Heap → List Loc → Prop} {vaa : Addr} {csa : List Int32} {ia : Nat} {raa : Addr} {kra : ClassId} {wda : List Value} (X0 : Stand p l e rq13 s m #[(.ref vaa), (.int 0), (.int (Int32.ofNat csa.length))] below meth c T0 locs 1 6) (hx : p.tables.exec = Jvm.exec) (hZ : Z.Warmed39 s.vm) (hw : HW Z a0) (hby : c.code = jdk_52_method_14_code) (hml : c.maxLocals = 5) (hown : s.vm.findClass sq5 = some m.cls) (hnm : meth.name = "toBytes") (hre : meth.sig.returnType = some (.array .byte)) (hlk : meth.locks = false) (e0 : T0.heap = h0) (N0 : Fr n0 locs) (Z0 : n0 ≤ h0.size) (P1 : ¬ ((Int32.ofNat ia) < (Int32.ofNat csa.length))) (P2 : Arv Z h0 raa kra .byte (Int32.ofNat (2 * csa.length)) wda (.int (0 : Int32))) (P3 : Exa Z h0 raa "[B") (kq : ∀ (h1 : Heap) (L1 : List Loc), Fr n0 L1 → Keep h0 h1 [] → Arv Z h1 raa kra .byte (Int32.ofNat (2 * csa.length)) wda (.int (0 : Int32)) → Exa Z h1 raa "[B" → Qa (some (.ref raa)) h1 L1) :
    Fin p e below s 1 6 Qa (T0.setTop (mkF m 8 #[rv vaa, iv (Int32.ofNat ia), iv (Int32.ofNat csa.length), rv raa, iv (Int32.ofNat ia)] [])) := by
  obtain ⟨fs, hr, hrun, hended, hW, hsame⟩ := X0.leave (v := some (.ref raa)) (fun h => by rw [hre] at h; cases h)
  refine ⟨_, _, ?_, hrun, hended, _, _, rfl, ?_, ⟨_, rfl⟩, hW, hsame.mono (by decide) (by decide)⟩
  · show SF p e below T0 (mkF m 8 #[rv vaa, iv (Int32.ofNat ia), iv (Int32.ofNat csa.length), rv raa, iv (Int32.ofNat ia)] []) _
    refine XS.iload X0.here hx rfl (hb hby d43_8) rfl ?_
    refine XS.iloadN X0.here hx rfl (hb hby d43_10) rfl ?_
    refine XS.icmpYes X0.here hx rfl (pc0 := 11) (pc' := 32) rfl (hb hby d43_11) rfl (flt P1).2.1 (by decide) (by decide) ?_
    refine XS.aloadN X0.here hx rfl (hb hby d43_32) rfl rfl ?_
    exact own_retR X0 hx hre rfl rfl (hb hby d43_33) hr
  · show Qa _ T0.heap _
    rw [e0]
    exact kq _ _ N0 (Keep.refl h0 []) P2 P3
def Q6 (Z : State) (cs : List Int32) (h0 : Heap) (n0 : Nat) (v : Option Value) (h : Heap) (L : List Loc) : Prop := ∃ (b : Addr) (k : ClassId), h0.size ≤ b ∧ v = some (.ref b) ∧ Fr n0 L ∧ Keep h0 h [] ∧ Arv Z h b k .byte (Int32.ofNat (2 * cs.length)) (own_wd cs) (.int (0 : Int32)) ∧ Exa Z h b "[B"
theorem tbL {p : Program} {l : Launch} {e : Env} {s : State} {m : MethodId} {below : List Frame} {meth : Method} {c : Code} {Z : State} {a0 : Array Value} {n0 : Nat} {GC : Int32} {GF : Value} (hx : p.tables.exec = Jvm.exec) (hZ : Z.Warmed39 s.vm) (hw : HW Z a0) (hby : c.code = jdk_52_method_14_code) (hml : c.maxLocals = 5) (hown : s.vm.findClass sq5 = some m.cls) (hnm : meth.name = "toBytes") (hre : meth.sig.returnType = some (.array .byte)) (hlk : meth.locks = false) (S : St Z GC GF)
    {vaa raa : Addr} {kva kra : ClassId} {cs : List Int32} {hh : Heap} (hk : cs.length < 7) (gr : n0 ≤ raa) (hr : hh.size ≤ raa) (ne : vaa ≠ raa) :
    ∀ (r i : Nat) (T0 : State) (locs : List Loc) (h0 : Heap), i + r = cs.length → Stand p l e rq13 s m #[(.ref vaa), (.int 0), (.int (Int32.ofNat cs.length))] below meth c T0 locs 1 6 → T0.heap = h0 → Fr n0 locs → n0 ≤ h0.size → Old Z n0 h0 → Keep hh h0 [] → Arv Z h0 vaa kva .char (Int32.ofNat cs.length) (own_ci cs) (.int (0 : Int32)) → Arv Z h0 raa kra .byte (Int32.ofNat (2 * cs.length)) (own_wd (cs.take i)) (.int (0 : Int32)) → Exa Z h0 raa "[B" →
      Fin p e below s 1 6 (Q6 Z cs hh n0) (T0.setTop (mkF m 8 #[rv vaa, iv (Int32.ofNat i), iv (Int32.ofNat cs.length), rv raa, iv (Int32.ofNat i)] [])) := by
  intro r
  induction r with
  | zero =>
    intro i T0 locs h0 hi X0 e0 N0 Z0 O KK Av Ar Er
    have ei : i = cs.length := by omega
    subst ei
    rw [List.take_length] at Ar
    exact tbX X0 hx hZ hw hby hml hown hnm hre hlk e0 N0 Z0 Int32.lt_irrefl Ar Er (fun h1 L1 N K A E => ⟨raa, kra, hr, rfl, N, KK.trans K (fun x hx => by cases hx), A, E⟩)
  | succ r ih =>
    intro i T0 locs h0 hi0 X0 e0 N0 Z0 O KK Av Ar Er
    have hi : i < cs.length := by omega
    have f1 := own_f1 cs.length (by omega) i hi
    have hlen : (own_wd (cs.take i)).length = 2 * i := by rw [own_wd_len, List.length_take]; omega
    refine tbT (csa := cs) (ia := i) (el1 := cs.getD i 0) X0 hx hZ hw hby hml hown hnm hre hlk e0 N0 Z0 (own_inb hi (by omega)).2 Av (own_inb hi (by omega)) (own_ci_get cs i hi (by omega)) Ar Er S.2.2.2.2.1 O S.2.2.2.2.2.1 f1.1 gr (f1.2.2.1.trans hlen.symm) S.2.2.2.2.2.2 f1.2.1 (f1.2.2.2.trans (by rw [List.length_append, hlen]; rfl)) ne (fun T1 L1 h1 X1 e1 N1 z1 K1 Av1 Ar1 Er1 => ?_)
    rw [own_wd_snoc, ← own_take cs i hi] at Ar1
    rw [Jvm.Free.XT.succ32]
    exact ih (i + 1) T1 L1 h1 (by omega) X1 e1 N1 z1 (O.keep K1 (allS gr all0)) (KK.trans K1 (fun x hx => Or.inr (by rw [List.mem_singleton.mp hx]; exact hr))) Av1 Ar1 Er1
theorem d43_0 : D43 0 (.iload_n 2) 1 := by decide +kernel
theorem d43_1 : D43 1 (.invokestatic 107) 3 := by decide +kernel
def Q45_71 (Z : State) (u1 : List Int32) (h0 : Heap) (n0 : Nat) (v : Option Value) (h : Heap) (L : List Loc) : Prop := v = some (.int (Int32.ofNat (2 * u1.length))) ∧ Fr n0 L ∧ h = h0
theorem rm45_71 (l : Launch) (Z : State) (a0 : Array Value) (hw : HW Z a0) (ws : List Jvm.Cond) (u1 : List Int32) (h0 : Heap) (n0 : Nat) (Z0 : n0 ≤ h0.size) (P1 : ¬ ((Int32.ofNat u1.length) < (0 : Int32))) (P2 : (Int32.ofNat u1.length) < (1073741823 : Int32)) :
    MF l Z mq44 (Jvm.Cond.code mq44 jdk_52_method_3_code 1 (some .int)) ws rq0 #[(.int (Int32.ofNat u1.length))] h0 (Q45_71 Z u1 h0 n0) := by
  refine own_enter (plainFor_of_name pn_0) fun p e s m below meth c s₁ X0 hx hby hml hown hnm hZ e0 hre hlk => ?_
  have N0 := Fr.nil n0
  have pre0 : ∀ t, SF p e below s₁ (mkF m 0 #[iv (Int32.ofNat u1.length)] []) t → SF p e below s₁ (entryFrame m #[(.int (Int32.ofNat u1.length))] 1) t := fun t k => castTop (ef_8 m (Int32.ofNat u1.length)) k
  obtain ⟨fs, hr, hrun, hended, hW, hsame⟩ := X0.leave (v := some (.int (Int32.ofNat (2 * u1.length)))) (fun h => by rw [hre] at h; cases h)
  refine ⟨_, _, pre0 _ ?_, hrun, hended, _, _, rfl, ?_, ⟨_, rfl⟩, hW, hsame.mono (by decide) (by decide)⟩
  · show SF p e below s₁ (mkF m 0 #[iv (Int32.ofNat u1.length)] []) _
    refine XS.iloadN X0.here hx rfl (hb hby d45_0) rfl ?_
    refine XS.ifYes X0.here hx rfl (pc0 := 1) (pc' := 12) rfl (hb hby d45_1) rfl ((if0 _ _).trans (flt P1).2.1) (by decide) (by decide) ?_
    refine XS.iloadN X0.here hx rfl (hb hby d45_12) rfl ?_
    refine X0.ldcInt hx hown (mvT hZ (tw hw 230 rfl)) (g := (mkF m 13 #[iv (Int32.ofNat u1.length)] [(.int (Int32.ofNat u1.length))])) rfl (hb hby d45_13) _ ?_
    refine XS.icmpYes X0.here hx rfl (pc0 := 15) (pc' := 55) rfl (hb hby d45_15) rfl (tlt P2).1 (by decide) (by decide) ?_
    refine XS.iloadN X0.here hx rfl (hb hby d45_55) rfl ?_
    refine XS.iconst X0.here hx rfl (hb hby d45_56) ?_
    refine XS.ishl X0.here hx rfl (hb hby d45_57) rfl ?_
    show SF p e below s₁ (mkF m 58 #[iv (Int32.ofNat u1.length)] [(.int ((Int32.ofNat u1.length) <<< ((1 : Int32) &&& 31)))]) _
    rw [(show ((Int32.ofNat u1.length) <<< ((1 : Int32) &&& 31)) = (Int32.ofNat (2 * u1.length)) from own_shl1 _)]
    exact retI X0 hx hre (hb hby d45_58) hr
  · show Q45_71 Z u1 h0 n0 _ s₁.heap _
    rw [e0]
    exact ⟨rfl, N0, rfl⟩
def Q44_72 (Z : State) (u1 : List Int32) (h0 : Heap) (n0 : Nat) (v : Option Value) (h : Heap) (L : List Loc) : Prop := ∃ e1x : Addr, ∃ e2x : ClassId, h0.size ≤ e1x ∧ v = some (.ref e1x) ∧ Fr n0 L ∧ Keep h0 h [] ∧ Arv Z h e1x e2x .byte (Int32.ofNat (2 * u1.length)) [] (.int (0 : Int32)) ∧ Exa Z h e1x "[B"
theorem rm44_72 (l : Launch) (Z : State) (a0 : Array Value) (hw : HW Z a0) (ws : List Jvm.Cond) (u1 : List Int32) (h0 : Heap) (n0 : Nat) (Z0 : n0 ≤ h0.size) (P1 : ¬ ((Int32.ofNat u1.length) < (0 : Int32))) (P2 : (Int32.ofNat u1.length) < (1073741823 : Int32)) (P3 : ¬ (Int32.ofNat (2 * u1.length)) < 0) (P4 : ((Int32.ofNat (2 * u1.length))).toNatClampNeg ≤ 6) :
    MF l Z mq43 (Jvm.Cond.code mq43 jdk_52_method_2_code 1 (some (.array .byte))) ws ({ frames := 1, cells := 1, slots := 6, locals := 12 } : Room) #[(.int (Int32.ofNat u1.length))] h0 (Q44_72 Z u1 h0 n0) := by
  refine own_enter (plainFor_of_name pn_0) fun p e s m below meth c s₁ X0 hx hby hml hown hnm hZ e0 hre hlk => ?_
  have N0 := Fr.nil n0
  have pre0 : ∀ t, SF p e below s₁ (mkF m 0 #[iv (Int32.ofNat u1.length)] []) t → SF p e below s₁ (entryFrame m #[(.int (Int32.ofNat u1.length))] 1) t := fun t k => castTop (ef_9 m (Int32.ofNat u1.length)) k
  obtain ⟨_, _, ⟨T1, L1, k1x, n1⟩, -, X1, ⟨Lc1, hQ1, l1, y1, z1⟩, st1⟩ := Jvm.LawKit.callS X0 hx (y := mq44) hown (mvT hZ (tw hw 227 rfl)) (mvT hZ (tw hw 228 rfl)) (mvT hZ (tw hw 21 rfl)) (mvT hZ (tw hw 229 rfl)) (by decide) (backOf (W := 0) (rm45_71 l Z a0 hw [] u1 h0 n0 Z0 P1 P2) hZ (tw hw 229 rfl) (tw hw 21 rfl) (by decide) (by decide)) (g := (mkF m 1 #[iv (Int32.ofNat u1.length)] [(.int (Int32.ofNat u1.length))])) rfl (by rw [hml]; rfl) (argsL := [(.int (Int32.ofNat u1.length))]) (rest := []) (lenOf pd_7 rfl) rfl (Nat.le_of_eq rfl) (hb hby d44_1) (fun _ _ => ⟨rfl, e0, (by decide : 0 + 0 ≤ _), (by decide : 0 + 0 ≤ _)⟩)
  dsimp only [Pt.U, Pt.locs, Pt.cells, Pt.slots] at X1 l1 y1 z1 st1 hQ1
  subst l1 y1 z1
  obtain ⟨rfl, N1q, e1⟩ := hQ1
  have N1 := Fr.app N0 N1q
  obtain ⟨T2, h2, e2x, X2, e2, E2, A2, Ex2, st2⟩ := newPE X1 hx hZ (tw hw 23 rfl) e1 (g := (mkF m 4 #[iv (Int32.ofNat u1.length)] [(.int (Int32.ofNat (2 * u1.length)))])) rfl (hb hby d44_4) rfl P3 (cap := 6) P4 (by decide) (by decide) (by decide) (ad := "[B") rfl
  obtain ⟨e1x, g2⟩ : ∃ z, z = h0.size := ⟨_, rfl⟩
  rw [← g2] at A2 st2 Ex2
  have K2 : Keep h0 h2 [] := (Keep.refl h0 []).ext E2
  have V2 : Arv Z h2 e1x e2x .byte (Int32.ofNat (2 * u1.length)) [] (.int (0 : Int32)) := Arv.new A2 P3
  have sz0_b49 : h0.size ≤ e1x := Nat.le_trans (Keep.refl h0 []).1 (Nat.le_of_eq g2.symm)
  obtain ⟨fs, hr, hrun, hended, hW, hsame⟩ := X2.leave (v := some (.ref e1x)) (fun h => by rw [hre] at h; cases h)
  refine ⟨_, _, pre0 _ ?_, hrun, hended, _, _, rfl, ?_, ⟨_, rfl⟩, hW, hsame.mono (by decide) (by decide)⟩
  · show SF p e below s₁ (mkF m 0 #[iv (Int32.ofNat u1.length)] []) _
    refine XS.iloadN X0.here hx rfl (hb hby d44_0) rfl ?_
    refine st1 _ ?_
    refine st2 _ ?_
    exact own_retR X2 hx hre rfl rfl (hb hby d44_6) hr
  · show Q44_72 Z u1 h0 n0 _ T2.heap _
    rw [e2]
    exact ⟨e1x, e2x, sz0_b49, rfl, N1, K2, V2, Ex2⟩
theorem d43_4 : D43 4 (.astore_n 3) 1 := by decide +kernel
theorem d43_5 : D43 5 (.iconst 0) 1 := by decide +kernel
theorem d43_6 : D43 6 (.istore 4) 2 := by decide +kernel
theorem tob0 (l : Launch) (Z : State) (a0 : Array Value) (hw : HW Z a0) (ws : List Jvm.Cond) (vaa : Addr) (cs : List Int32) (kva : ClassId) (GC : Int32) (GF : Value) (h0 : Heap) (n0 : Nat) (Z0 : n0 ≤ h0.size) (P1 : ¬ ((Int32.ofNat cs.length) < (0 : Int32))) (P2 : (Int32.ofNat cs.length) < (1073741823 : Int32)) (P3 : ¬ (Int32.ofNat (2 * cs.length)) < 0) (P4 : ((Int32.ofNat (2 * cs.length))).toNatClampNeg ≤ 6) (P5 : Arv Z h0 vaa kva .char (Int32.ofNat cs.length) (own_ci cs) (.int (0 : Int32))) (P6 : vaa < h0.size) (P7 : Old Z n0 h0) (S : St Z GC GF) (hk : cs.length < 7) :
    MF l Z mq47 (Jvm.Cond.code mq47 jdk_52_method_14_code 5 (some (.array .byte))) ws rq13 #[(.ref vaa), (.int 0), (.int (Int32.ofNat cs.length))] h0 (Q6 Z cs h0 n0) := by
  refine own_enter (plainFor_of_name pn_0) fun p e s m below meth c s₁ X0 hx hby hml hown hnm hZ e0 hre hlk => ?_
  have N0 := Fr.nil n0
  have pre0 : ∀ t, SF p e below s₁ (mkF m 0 #[rv vaa, iv 0, iv (Int32.ofNat cs.length), .unset, .unset] []) t → SF p e below s₁ (entryFrame m #[(.ref vaa), (.int 0), (.int (Int32.ofNat cs.length))] 5) t := fun t k => castTop (ef_48 m vaa (0 : Int32) (Int32.ofNat cs.length)) k
  obtain ⟨_, _, ⟨T1, L1, k1x, n1⟩, -, X1, ⟨Lc1, hQ1, l1, y1, z1⟩, st1⟩ := Jvm.LawKit.callS X0 hx (y := mq43) hown (mvT hZ (tw hw 224 rfl)) (mvT hZ (tw hw 225 rfl)) (mvT hZ (tw hw 21 rfl)) (mvT hZ (tw hw 226 rfl)) (by decide) (backOf (W := 0) (rm44_72 l Z a0 hw [] cs h0 n0 Z0 P1 P2 P3 P4) hZ (tw hw 226 rfl) (tw hw 21 rfl) (by decide) (by decide)) (g := (mkF m 1 #[rv vaa, iv 0, iv (Int32.ofNat cs.length), .unset, .unset] [(.int (Int32.ofNat cs.length))])) rfl (by rw [hml]; rfl) (argsL := [(.int (Int32.ofNat cs.length))]) (rest := []) (lenOf pd_8 rfl) rfl (Nat.le_of_eq rfl) (hb hby d43_1) (fun _ _ => ⟨rfl, e0, (by decide : 0 + 1 ≤ _), (by decide : 0 + 6 ≤ _)⟩)
  dsimp only [Pt.U, Pt.locs, Pt.cells, Pt.slots] at X1 l1 y1 z1 st1 hQ1
  subst l1 y1 z1
  obtain ⟨b50, k51, bz_b50, rfl, N1q, K1c, Fq1_0, Fq1_1⟩ := hQ1
  have K1 : Keep h0 T1.heap [] := (Keep.refl h0 []).trans K1c all0
  have N1 := Fr.app N0 N1q
  have Z1 : n0 ≤ T1.heap.size := Nat.le_trans Z0 K1c.1
  have F1_2 : Arv Z T1.heap vaa kva .char (Int32.ofNat cs.length) (own_ci cs) (.int (0 : Int32)) := P5.keep K1c nin0
  have g_b50 : n0 ≤ b50 := Nat.le_trans Z0 bz_b50
  have sz0_b50 : h0.size ≤ b50 := Nat.le_trans (Keep.refl h0 []).1 bz_b50
  have O1 : Old Z n0 T1.heap := P7.keep K1c all0
  refine Fin.pre (fun t k => pre0 _ ?_) (tbL hx hZ hw hby hml hown hnm hre hlk S hk g_b50 sz0_b50 (Nat.ne_of_lt (Nat.lt_of_lt_of_le P6 bz_b50)) cs.length 0 _ _ _ (Nat.zero_add _) X1 rfl N1 Z1 O1 K1 F1_2 Fq1_0 Fq1_1)
  show SF p e below s₁ (mkF m 0 #[rv vaa, iv 0, iv (Int32.ofNat cs.length), .unset, .unset] []) _
  refine XS.iloadN X0.here hx rfl (hb hby d43_0) rfl ?_
  refine st1 _ ?_
  refine XS.astoreN X1.here hx rfl (hb hby d43_4) rfl rfl (l' := #[rv vaa, iv 0, iv (Int32.ofNat cs.length), rv b50, .unset]) rfl ?_
  refine XS.iconst X1.here hx rfl (hb hby d43_5) ?_
  refine XS.istore X1.here hx rfl (hb hby d43_6) rfl (l' := #[rv vaa, iv 0, iv (Int32.ofNat cs.length), rv b50, iv 0]) rfl ?_
  exact k
abbrev D2 (n : Nat) (i : Instr) (k : Nat) : Prop := decode jdk_42_method_3_code n = .ok (i, k)
theorem d2_0 : D2 0 (.aload_n 0) 1 := by decide +kernel
theorem d2_1 : D2 1 (.aload_n 1) 1 := by decide +kernel
theorem d2_2 : D2 2 (.iconst 0) 1 := by decide +kernel
theorem d2_3 : D2 3 (.aload_n 1) 1 := by decide +kernel
theorem d2_4 : D2 4 (.arraylength) 1 := by decide +kernel
theorem d2_5 : D2 5 (.aconst_null) 1 := by decide +kernel
theorem d2_6 : D2 6 (.invokespecial 27) 3 := by decide +kernel
abbrev D3 (n : Nat) (i : Instr) (k : Nat) : Prop := decode jdk_42_method_149_code n = .ok (i, k)
theorem d3_0 : D3 0 (.aload_n 0) 1 := by decide +kernel
theorem d3_1 : D3 1 (.invokespecial 1) 3 := by decide +kernel
theorem d3_4 : D3 4 (.iload_n 3) 1 := by decide +kernel
theorem d3_5 : D3 5 (.ifCond .ne 22) 3 := by decide +kernel
theorem d3_27 : D3 27 (.getstatic 38) 3 := by decide +kernel
theorem d3_30 : D3 30 (.ifCond .eq 28) 3 := by decide +kernel
theorem d3_33 : D3 33 (.aload_n 1) 1 := by decide +kernel
theorem d3_34 : D3 34 (.iload_n 2) 1 := by decide +kernel
theorem d3_35 : D3 35 (.iload_n 3) 1 := by decide +kernel
theorem d3_36 : D3 36 (.invokestatic 177) 3 := by decide +kernel
abbrev D5 (n : Nat) (i : Instr) (k : Nat) : Prop := decode jdk_52_method_16_code n = .ok (i, k)
theorem d5_0 : D5 0 (.iload_n 2) 1 := by decide +kernel
theorem d5_1 : D5 1 (.newarray .byte) 2 := by decide +kernel
theorem d5_3 : D5 3 (.astore_n 3) 1 := by decide +kernel
theorem d5_4 : D5 4 (.aload_n 0) 1 := by decide +kernel
theorem d5_5 : D5 5 (.iload_n 1) 1 := by decide +kernel
theorem d5_6 : D5 6 (.aload_n 3) 1 := by decide +kernel
theorem d5_7 : D5 7 (.iconst 0) 1 := by decide +kernel
theorem d5_8 : D5 8 (.iload_n 2) 1 := by decide +kernel
theorem d5_9 : D5 9 (.invokestatic 115) 3 := by decide +kernel
theorem pd_30 : parseMethodDescriptor "([CI[BII)I" = some ⟨[(.array .char), .int, (.array .byte), .int, .int], some .int⟩ := by decide +kernel
theorem d5_12 : D5 12 (.istore 4) 2 := by decide +kernel
theorem d5_14 : D5 14 (.iload 4) 2 := by decide +kernel
theorem d5_16 : D5 16 (.iload_n 2) 1 := by decide +kernel
theorem d5_17 : D5 17 (.if_icmp .eq 40) 3 := by decide +kernel
theorem d5_20 : D5 20 (.aload_n 0) 1 := by decide +kernel
theorem d5_21 : D5 21 (.iload_n 1) 1 := by decide +kernel
theorem d5_22 : D5 22 (.iload_n 2) 1 := by decide +kernel
theorem d5_23 : D5 23 (.invokestatic 119) 3 := by decide +kernel
theorem pd_31 : parseMethodDescriptor "([CII)[B" = some ⟨[(.array .char), .int, .int], some (.array .byte)⟩ := by decide +kernel
theorem d5_26 : D5 26 (.astore 5) 2 := by decide +kernel
theorem d5_28 : D5 28 (.aload 5) 2 := by decide +kernel
theorem d5_30 : D5 30 (.iload 4) 2 := by decide +kernel
theorem d5_32 : D5 32 (.invokestatic 71) 3 := by decide +kernel
theorem d5_35 : D5 35 (.sipush 255) 3 := by decide +kernel
theorem d5_38 : D5 38 (.if_icmp .gt 16) 3 := by decide +kernel
theorem d5_54 : D5 54 (.aload 5) 2 := by decide +kernel
theorem d5_56 : D5 56 (.areturn) 1 := by decide +kernel
theorem ef_49 (m : MethodId) (x0 : Addr) (x1 : Int32) (x2 : Int32) : entryFrame m #[(.ref x0), (.int x1), (.int x2)] 6 = mkF m 0 #[.val (.ref x0), .val (.int x1), .val (.int x2), .unset, .unset, .unset] [] := by first | (simp [entryFrame, mkF, argsToLocals, Value.category]; done) | rfl
def Q5_73 (Z : State) (u1 : Addr) (u2 : List Int32) (u3 : ClassId) (GC : Int32) (GF : Value) (h0 : Heap) (n0 : Nat) (v : Option Value) (h : Heap) (L : List Loc) : Prop := ∃ e1x : Addr, ∃ e2x : ClassId, h0.size ≤ e1x ∧ v = some (.ref e1x) ∧ Fr n0 L ∧ Keep h0 h [] ∧ Arv Z h e1x e2x .byte (Int32.ofNat (2 * u2.length)) (own_wd u2) (.int (0 : Int32)) ∧ Exa Z h e1x "[B"
theorem rm5_73 (l : Launch) (Z : State) (a0 : Array Value) (hw : HW Z a0) (ws : List Jvm.Cond) (u1 : Addr) (u2 : List Int32) (u3 : ClassId) (GC : Int32) (GF : Value) (h0 : Heap) (n0 : Nat) (Z0 : n0 ≤ h0.size) (P1 : ¬ (Int32.ofNat u2.length) < 0) (P2 : ((Int32.ofNat u2.length)).toNatClampNeg ≤ 3) (P3 : Arv Z h0 u1 u3 .char (Int32.ofNat u2.length) (own_ci u2) (.int (0 : Int32))) (P4 : u2.length < 4) (P5 : ∃ c ∈ u2, (255 : Int32) < c) (P6 : ∀ c ∈ u2, ¬ c < 0 ∧ ¬ (65535 : Int32) < c) (P7 : u1 < h0.size) (P8 : St Z GC GF) (P9 : Old Z n0 h0) (Sg4 : Sta Z Z.heap sq5 "$assertionsDisabled" "Z" (.int 1)) (Sg5 : Sta Z Z.heap sq5 "HI_BYTE_SHIFT" "I" (.int 0)) (Sg6 : Sta Z Z.heap sq5 "LO_BYTE_SHIFT" "I" (.int 8)) :
    MF l Z mq38 (Jvm.Cond.code mq38 jdk_52_method_16_code 6 (some (.array .byte))) ws ({ frames := 4, cells := 2, slots := 9, locals := 76 } : Room) #[(.ref u1), (.int 0), (.int (Int32.ofNat u2.length))] h0 (Q5_73 Z u1 u2 u3 GC GF h0 n0) := by
  refine own_enter (plainFor_of_name pn_0) fun p e s m below meth c s₁ X0 hx hby hml hown hnm hZ e0 hre hlk => ?_
  have N0 := Fr.nil n0
  have pre0 : ∀ t, SF p e below s₁ (mkF m 0 #[rv u1, iv 0, iv (Int32.ofNat u2.length), .unset, .unset, .unset] []) t → SF p e below s₁ (entryFrame m #[(.ref u1), (.int 0), (.int (Int32.ofNat u2.length))] 6) t := fun t k => castTop (ef_49 m u1 (0 : Int32) (Int32.ofNat u2.length)) k
  obtain ⟨T1, h1, w7x, X1, e1, E1, A1, Ex1, st1⟩ := newPE X0 hx hZ (tw hw 23 rfl) e0 (g := (mkF m 1 #[rv u1, iv 0, iv (Int32.ofNat u2.length), .unset, .unset, .unset] [(.int (Int32.ofNat u2.length))])) rfl (hb hby d5_1) rfl P1 (cap := 3) P2 (by decide) (by decide) (by decide) (ad := "[B") rfl
  obtain ⟨w6x, g1⟩ : ∃ z, z = h0.size := ⟨_, rfl⟩
  rw [← g1] at A1 st1 Ex1
  have K1 : Keep h0 h1 [] := (Keep.refl h0 []).ext E1
  have V1 : Arv Z h1 w6x w7x .byte (Int32.ofNat u2.length) [] (.int (0 : Int32)) := Arv.new A1 P1
  have F1_2 : Arv Z h1 u1 u3 .char (Int32.ofNat u2.length) (own_ci u2) (.int (0 : Int32)) := P3.ext E1
  have Z1 : n0 ≤ h1.size := Nat.le_trans Z0 E1.1
  have g_b53 : n0 ≤ w6x := Nat.le_trans Z0 (Nat.le_of_eq g1.symm)
  obtain ⟨_, _, ⟨T3, L3, k3x, n3⟩, -, X3, ⟨Lc3, hQ3, l3, y3, z3⟩, st3⟩ := Jvm.LawKit.callS X1 hx (y := mq39) hown (mvT hZ (tw hw 24 rfl)) (mvT hZ (tw hw 25 rfl)) (mvT hZ (tw hw 21 rfl)) (mvT hZ (tw hw 26 rfl)) (by decide) (backOf (W := 0) (cm5 l Z a0 hw [] u1 w6x u2 u3 w7x h1 n0 Z1 F1_2 V1 Ex1 (Nat.lt_trans P4 (by decide)) g_b53 (Nat.ne_of_lt (Nat.lt_of_lt_of_le P7 (Nat.le_of_eq g1.symm))) P5) hZ (tw hw 26 rfl) (tw hw 21 rfl) (by decide) (by decide)) (g := (mkF m 9 #[rv u1, iv 0, iv (Int32.ofNat u2.length), rv w6x, .unset, .unset] [(.int (Int32.ofNat u2.length)), (.int 0), (.ref w6x), (.int 0), (.ref u1)])) rfl (by rw [hml]; rfl) (argsL := [(.ref u1), (.int 0), (.ref w6x), (.int 0), (.int (Int32.ofNat u2.length))]) (rest := []) (lenOf pd_30 rfl) rfl (Nat.le_of_eq rfl) (hb hby d5_9) (fun _ _ => ⟨rfl, e1, (by decide : 1 + 0 ≤ _), (by decide : 3 + 0 ≤ _)⟩)
  dsimp only [Pt.U, Pt.locs, Pt.cells, Pt.slots] at X3 l3 y3 z3 st3 hQ3
  subst l3 y3 z3
  obtain ⟨jqq, hj1, hj2, rfl, N3q, K3c⟩ := hQ3
  obtain ⟨elx0, eel0⟩ : ∃ z, z = StrChars.lo8 (u2.getD jqq 0) := ⟨_, rfl⟩
  obtain ⟨elx1, eel1⟩ : ∃ z, z = StrChars.hi8 (u2.getD jqq 0) := ⟨_, rfl⟩
  have hcj : ¬ u2.getD jqq 0 < 0 ∧ ¬ (65535 : Int32) < u2.getD jqq 0 := P6 _ (by rw [List.getD_eq_getElem?_getD, List.getElem?_eq_getElem hj1]; exact List.getElem_mem _)
  have sz0_b53 : h0.size ≤ w6x := Nat.le_trans (Keep.refl h0 []).1 (Nat.le_of_eq g1.symm)
  have K3 : Keep h0 T3.heap [] := K1.trans K3c (allS (Or.inr sz0_b53) all0)
  have N3 := Fr.app N0 N3q
  have F2_4 : Arv Z T3.heap u1 u3 .char (Int32.ofNat u2.length) (own_ci u2) (.int (0 : Int32)) := F1_2.keep K3c (ninS (Nat.ne_of_lt (Nat.lt_of_lt_of_le P7 (Nat.le_of_eq g1.symm))) nin0)
  have lt_vaa_1 : u1 < h1.size := Nat.lt_of_lt_of_le P7 E1.1
  have lt_vaa_2 : u1 < T3.heap.size := Nat.lt_of_lt_of_le lt_vaa_1 K3c.1
  have O1 : Old Z n0 h1 := P9.ext E1
  have O3 : Old Z n0 T3.heap := O1.keep K3c (allS g_b53 all0)
  have Z3 : n0 ≤ T3.heap.size := Nat.le_trans Z1 K3c.1
  obtain ⟨_, _, ⟨T5, L5, k5x, n5⟩, -, X5, ⟨Lc5, hQ5, l5, y5, z5⟩, st5⟩ := Jvm.LawKit.callS X3 hx (y := mq47) hown (mvT hZ (tw hw 221 rfl)) (mvT hZ (tw hw 222 rfl)) (mvT hZ (tw hw 21 rfl)) (mvT hZ (tw hw 223 rfl)) (by decide) (backOf (W := 0) (tob0 l Z a0 hw [] u1 u2 u3 GC GF T3.heap n0 Z3 ((by decide +kernel : ∀ q < 4, ((¬ ((Int32.ofNat q) < (0 : Int32))) ∧ True)) u2.length P4).1 ((by decide +kernel : ∀ q < 4, (((Int32.ofNat q) < (1073741823 : Int32)) ∧ True)) u2.length P4).1 ((by decide +kernel : ∀ q < 4, ((¬ (Int32.ofNat (2 * q)) < 0) ∧ True)) u2.length P4).1 ((by decide +kernel : ∀ q < 4, ((((Int32.ofNat (2 * q))).toNatClampNeg ≤ 6) ∧ True)) u2.length P4).1 F2_4 lt_vaa_2 O3 P8 (Nat.lt_trans P4 (by decide))) hZ (tw hw 223 rfl) (tw hw 21 rfl) (by decide) (by decide)) (g := (mkF m 23 #[rv u1, iv 0, iv (Int32.ofNat u2.length), rv w6x, iv (Int32.ofNat jqq), .unset] [(.int (Int32.ofNat u2.length)), (.int 0), (.ref u1)])) rfl (by rw [hml]; rfl) (argsL := [(.ref u1), (.int 0), (.int (Int32.ofNat u2.length))]) (rest := []) (lenOf pd_31 rfl) rfl (Nat.le_of_eq rfl) (hb hby d5_23) (fun _ _ => ⟨rfl, rfl, (by decide : 1 + 1 ≤ _), (by decide : 3 + 6 ≤ _)⟩)
  dsimp only [Pt.U, Pt.locs, Pt.cells, Pt.slots] at X5 l5 y5 z5 st5 hQ5
  subst l5 y5 z5
  obtain ⟨e1x, e2x, bz_b54, rfl, N5q, K5c, Fq5, Gq5⟩ := hQ5
  have K5 : Keep h0 T5.heap [] := K3.trans K5c all0
  have N5 := Fr.app N3 N5q
  have O5 : Old Z n0 T5.heap := O3.keep K5c all0
  have Z5 : n0 ≤ T5.heap.size := Nat.le_trans Z3 K5c.1
  obtain ⟨_, _, ⟨T6, L6, k6x, n6⟩, -, X6, ⟨Lc6, hQ6, l6, y6, z6⟩, st6⟩ := Jvm.LawKit.callS X5 hx (y := mq40) hown (mvT hZ (tw hw 237 rfl)) (mvT hZ (tw hw 238 rfl)) (mvT hZ (tw hw 21 rfl)) (mvT hZ (tw hw 239 rfl)) (by decide) (backOf (W := 0) (rm47_63 l Z a0 hw [] e1x jqq e2x u2 elx0 elx1 T5.heap n0 Z5 Sg4 O5 Fq5 (own_all2 4 4 (C := fun q j => (j < q)) (P := fun q j => ¬ (Int32.ofNat (2 * j)) < 0 ∧ (Int32.ofNat (2 * j)) < (Int32.ofNat (2 * q))) (by decide +kernel) u2.length P4 jqq (by omega) hj1) (eel0 ▸ own_wd_get0 u2 jqq hj1 (by omega)) Sg5 (own_all2 4 4 (C := fun q j => (j < q)) (P := fun q j => ¬ ((Int32.ofNat (2 * j)) + (1 : Int32)) < 0 ∧ ((Int32.ofNat (2 * j)) + (1 : Int32)) < (Int32.ofNat (2 * q))) (by decide +kernel) u2.length P4 jqq (by omega) hj1) (eel1 ▸ own_wd_get1 u2 jqq hj1 (by omega)) Sg6) hZ (tw hw 239 rfl) (tw hw 21 rfl) (by decide) (by decide)) (g := (mkF m 32 #[rv u1, iv 0, iv (Int32.ofNat u2.length), rv w6x, iv (Int32.ofNat jqq), rv e1x] [(.int (Int32.ofNat jqq)), (.ref e1x)])) rfl (by rw [hml]; rfl) (argsL := [(.ref e1x), (.int (Int32.ofNat jqq))]) (rest := []) (lenOf pd_28 rfl) rfl (Nat.le_of_eq rfl) (hb hby d5_32) (fun _ _ => ⟨rfl, rfl, (by decide : 2 + 0 ≤ _), (by decide : 9 + 0 ≤ _)⟩)
  dsimp only [Pt.U, Pt.locs, Pt.cells, Pt.slots] at X6 l6 y6 z6 st6 hQ6
  subst l6 y6 z6
  obtain ⟨rfl, N6q, e6⟩ := hQ6
  have N6 := Fr.app N5 N6q
  have sz0_b54 : h0.size ≤ e1x := Nat.le_trans K3.1 bz_b54
  obtain ⟨fs, hr, hrun, hended, hW, hsame⟩ := X6.leave (v := some (.ref e1x)) (fun h => by rw [hre] at h; cases h)
  refine ⟨_, _, pre0 _ ?_, hrun, hended, _, _, rfl, ?_, ⟨_, rfl⟩, hW, hsame.mono (by decide) (by decide)⟩
  · show SF p e below s₁ (mkF m 0 #[rv u1, iv 0, iv (Int32.ofNat u2.length), .unset, .unset, .unset] []) _
    refine XS.iloadN X0.here hx rfl (hb hby d5_0) rfl ?_
    refine st1 _ ?_
    refine XS.astoreN X1.here hx rfl (hb hby d5_3) rfl rfl (l' := #[rv u1, iv 0, iv (Int32.ofNat u2.length), rv w6x, .unset, .unset]) rfl ?_
    refine XS.aloadN X1.here hx rfl (hb hby d5_4) rfl rfl ?_
    refine XS.iloadN X1.here hx rfl (hb hby d5_5) rfl ?_
    refine XS.aloadN X1.here hx rfl (hb hby d5_6) rfl rfl ?_
    refine XS.iconst X1.here hx rfl (hb hby d5_7) ?_
    refine XS.iloadN X1.here hx rfl (hb hby d5_8) rfl ?_
    refine st3 _ ?_
    refine XS.istore X3.here hx rfl (hb hby d5_12) rfl (l' := #[rv u1, iv 0, iv (Int32.ofNat u2.length), rv w6x, iv (Int32.ofNat jqq), .unset]) rfl ?_
    refine XS.iload X3.here hx rfl (hb hby d5_14) rfl ?_
    refine XS.iloadN X3.here hx rfl (hb hby d5_16) rfl ?_
    refine XS.icmpNo X3.here hx rfl (hb hby d5_17) rfl (feq (own_all2 4 4 (C := fun q j => (j < q)) (P := fun q j => ¬ ((Int32.ofNat j) = (Int32.ofNat q))) (by decide +kernel) u2.length P4 jqq (by omega) hj1)).1 ?_
    refine XS.aloadN X3.here hx rfl (hb hby d5_20) rfl rfl ?_
    refine XS.iloadN X3.here hx rfl (hb hby d5_21) rfl ?_
    refine XS.iloadN X3.here hx rfl (hb hby d5_22) rfl ?_
    refine st5 _ ?_
    refine XS.astore X5.here hx rfl (hb hby d5_26) rfl rfl (l' := #[rv u1, iv 0, iv (Int32.ofNat u2.length), rv w6x, iv (Int32.ofNat jqq), rv e1x]) rfl ?_
    refine XS.aload X5.here hx rfl (hb hby d5_28) rfl rfl ?_
    refine XS.iload X5.here hx rfl (hb hby d5_30) rfl ?_
    refine st6 _ ?_
    refine XS.sipush X6.here hx rfl (hb hby d5_35) ?_
    refine XS.icmpYes X6.here hx rfl (pc0 := 38) (pc' := 54) rfl (hb hby d5_38) rfl (tlt (show (255 : Int32) < (nar .char ((((elx0 &&& (255 : Int32)) <<< ((0 : Int32) &&& 31)) ||| ((elx1 &&& (255 : Int32)) <<< ((8 : Int32) &&& 31))).toUInt32.toUInt16.toUInt32.toInt32)) from by rw [eel0, eel1]; have e0 := StrChars.pair_says hcj.1 hcj.2; unfold StrChars.pairCh at e0; rw [e0, own_nc hcj.1 hcj.2]; exact hj2)).2.2.1 (by decide) (by decide) ?_
    refine XS.aload X6.here hx rfl (hb hby d5_54) rfl rfl ?_
    exact own_retR X6 hx hre rfl rfl (hb hby d5_56) hr
  · show Q5_73 Z u1 u2 u3 GC GF h0 n0 _ T6.heap _
    rw [e6]
    exact ⟨e1x, e2x, sz0_b54, rfl, N6, K5, Fq5, Gq5⟩
theorem d3_39 : D3 39 (.astore 5) 2 := by decide +kernel
theorem d3_41 : D3 41 (.aload_n 0) 1 := by decide +kernel
theorem d3_42 : D3 42 (.aload 5) 2 := by decide +kernel
theorem d3_44 : D3 44 (.iload_n 3) 1 := by decide +kernel
theorem d3_45 : D3 45 (.invokestatic 47) 3 := by decide +kernel
abbrev D7 (n : Nat) (i : Instr) (k : Nat) : Prop := decode jdk_52_method_15_code n = .ok (i, k)
theorem d7_0 : D7 0 (.iload_n 1) 1 := by decide +kernel
theorem d7_1 : D7 1 (.aload_n 0) 1 := by decide +kernel
theorem d7_2 : D7 2 (.arraylength) 1 := by decide +kernel
theorem d7_3 : D7 3 (.isub) 1 := by decide +kernel
theorem d7_4 : D7 4 (.bipush 31) 2 := by decide +kernel
theorem d7_6 : D7 6 (.iushr) 1 := by decide +kernel
theorem d7_7 : D7 7 (.i2b) 1 := by decide +kernel
theorem d7_8 : D7 8 (.ireturn) 1 := by decide +kernel
theorem ef_50 (m : MethodId) (x0 : Addr) (x1 : Int32) : entryFrame m #[(.ref x0), (.int x1)] 2 = mkF m 0 #[.val (.ref x0), .val (.int x1)] [] := by first | (simp [entryFrame, mkF, argsToLocals, Value.category]; done) | rfl
def Q7_74 (Z : State) (u1 : Addr) (u2 : List Int32) (u3 : ClassId) (h0 : Heap) (n0 : Nat) (v : Option Value) (h : Heap) (L : List Loc) : Prop := v = some (.int (nar .byte (((((Int32.ofNat u2.length) - (Int32.ofNat (2 * u2.length))).toUInt32 >>> ((31 : Int32) &&& 31).toUInt32).toInt32).toInt8.toInt32))) ∧ Fr n0 L ∧ h = h0
theorem rm7_74 (l : Launch) (Z : State) (a0 : Array Value) (hw : HW Z a0) (ws : List Jvm.Cond) (u1 : Addr) (u2 : List Int32) (u3 : ClassId) (h0 : Heap) (n0 : Nat) (Z0 : n0 ≤ h0.size) (P1 : Arv Z h0 u1 u3 .byte (Int32.ofNat (2 * u2.length)) (own_wd u2) (.int (0 : Int32))) :
    MF l Z mq37 (Jvm.Cond.code mq37 jdk_52_method_15_code 2 (some .byte)) ws rq0 #[(.ref u1), (.int (Int32.ofNat u2.length))] h0 (Q7_74 Z u1 u2 u3 h0 n0) := by
  refine own_enter (plainFor_of_name pn_0) fun p e s m below meth c s₁ X0 hx hby hml hown hnm hZ e0 hre hlk => ?_
  have N0 := Fr.nil n0
  have pre0 : ∀ t, SF p e below s₁ (mkF m 0 #[rv u1, iv (Int32.ofNat u2.length)] []) t → SF p e below s₁ (entryFrame m #[(.ref u1), (.int (Int32.ofNat u2.length))] 2) t := fun t k => castTop (ef_50 m u1 (Int32.ofNat u2.length)) k
  obtain ⟨cl1, Ar1, q1, S1, N1z, H1, G1⟩ := id P1
  obtain ⟨fs, hr, hrun, hended, hW, hsame⟩ := X0.leave (v := some (.int (nar .byte (((((Int32.ofNat u2.length) - (Int32.ofNat (2 * u2.length))).toUInt32 >>> ((31 : Int32) &&& 31).toUInt32).toInt32).toInt8.toInt32)))) (fun h => by rw [hre] at h; cases h)
  refine ⟨_, _, pre0 _ ?_, hrun, hended, _, _, rfl, ?_, ⟨_, rfl⟩, hW, hsame.mono (by decide) (by decide)⟩
  · show SF p e below s₁ (mkF m 0 #[rv u1, iv (Int32.ofNat u2.length)] []) _
    refine XS.iloadN X0.here hx rfl (hb hby d7_0) rfl ?_
    refine XS.aloadN X0.here hx rfl (hb hby d7_1) rfl rfl ?_
    refine X0.arraylength hx (by rw [e0]; exact Ar1.1) (State.isArrayOf_alike hZ.alike Ar1.2.1) (g := (mkF m 2 #[rv u1, iv (Int32.ofNat u2.length)] [(.ref u1), (.int (Int32.ofNat u2.length))])) rfl rfl (hb hby d7_2) _ ?_
    rw [len_of S1 N1z]
    refine XS.isub X0.here hx rfl (hb hby d7_3) rfl ?_
    refine XS.bipush X0.here hx rfl (hb hby d7_4) ?_
    refine XS.iushr X0.here hx rfl (hb hby d7_6) rfl ?_
    refine XS.i2b X0.here hx rfl (hb hby d7_7) rfl ?_
    exact retN X0 hx (t := .byte) hre (by simp) (hb hby d7_8) hr
  · show Q7_74 Z u1 u2 u3 h0 n0 _ s₁.heap _
    rw [e0]
    exact ⟨rfl, N0, rfl⟩
theorem pd_32 : parseMethodDescriptor "([BI)B" = some ⟨[(.array .byte), .int], some .byte⟩ := by decide +kernel
theorem d3_48 : D3 48 (.putfield 15) 3 := by decide +kernel
theorem d3_51 : D3 51 (.aload_n 0) 1 := by decide +kernel
theorem d3_52 : D3 52 (.aload 5) 2 := by decide +kernel
theorem d3_54 : D3 54 (.putfield 9) 3 := by decide +kernel
theorem d3_57 : D3 57 (.return_) 1 := by decide +kernel
theorem ef_51 (m : MethodId) (x0 : Addr) (x1 : Addr) (x2 : Int32) (x3 : Int32) : entryFrame m #[(.ref x0), (.ref x1), (.int x2), (.int x3), .null] 6 = mkF m 0 #[.val (.ref x0), .val (.ref x1), .val (.int x2), .val (.int x3), .val .null, .unset] [] := by first | (simp [entryFrame, mkF, argsToLocals, Value.category]; done) | rfl
def Q3_75 (Z : State) (u1 : Addr) (u2 : Addr) (u3 : List Int32) (GC : Int32) (u4 : ClassId) (GF : Value) (h0 : Heap) (n0 : Nat) (v : Option Value) (h : Heap) (L : List Loc) : Prop := ∃ e1x : Addr, ∃ e2x : ClassId, h0.size ≤ e1x ∧ v = none ∧ Fr n0 L ∧ Keep h0 h [u1] ∧ Exa Z h u1 sq3 ∧ Fld Z h u1 sq3 "value" "[B" (.ref e1x) ∧ Fld Z h u1 sq3 "coder" "B" (.int (nar .byte (nar .byte (((((Int32.ofNat u3.length) - (Int32.ofNat (2 * u3.length))).toUInt32 >>> ((31 : Int32) &&& 31).toUInt32).toInt32).toInt8.toInt32)))) ∧ Arv Z h e1x e2x .byte (Int32.ofNat (2 * u3.length)) (own_wd u3) (.int (0 : Int32)) ∧ Exa Z h e1x "[B"
theorem rm3_75 (l : Launch) (Z : State) (a0 : Array Value) (hw : HW Z a0) (ws : List Jvm.Cond) (u1 : Addr) (u2 : Addr) (u3 : List Int32) (GC : Int32) (u4 : ClassId) (GF : Value) (h0 : Heap) (n0 : Nat) (Z0 : n0 ≤ h0.size) (P1 : ¬ ((Int32.ofNat u3.length) = (0 : Int32))) (Sg0 : Sta Z Z.heap sq3 "COMPACT_STRINGS" "Z" (.int GC)) (P3 : Old Z n0 h0) (nzGC : ¬ (GC = (0 : Int32))) (P5 : ¬ (Int32.ofNat u3.length) < 0) (P6 : ((Int32.ofNat u3.length)).toNatClampNeg ≤ 3) (P7 : Arv Z h0 u2 u4 .char (Int32.ofNat u3.length) (own_ci u3) (.int (0 : Int32))) (P8 : u3.length < 4) (P9 : ∃ c ∈ u3, (255 : Int32) < c) (P10 : ∀ c ∈ u3, ¬ c < 0 ∧ ¬ (65535 : Int32) < c) (P11 : u2 < h0.size) (P12 : St Z GC GF) (Sg4 : Sta Z Z.heap sq5 "$assertionsDisabled" "Z" (.int 1)) (Sg5 : Sta Z Z.heap sq5 "HI_BYTE_SHIFT" "I" (.int 0)) (Sg6 : Sta Z Z.heap sq5 "LO_BYTE_SHIFT" "I" (.int 8)) (P16 : Exa Z h0 u1 sq3) (P17 : Fld Z h0 u1 sq3 "value" "[B" .null) (P18 : Fld Z h0 u1 sq3 "coder" "B" (.int 0)) (P19 : n0 ≤ u1) (P20 : u1 < h0.size) :
    MF l Z mq19 (Jvm.Cond.code mq19 jdk_42_method_149_code 6 none) ws ({ frames := 5, cells := 2, slots := 9, locals := 93 } : Room) #[(.ref u1), (.ref u2), (.int 0), (.int (Int32.ofNat u3.length)), .null] h0 (Q3_75 Z u1 u2 u3 GC u4 GF h0 n0) := by
  refine own_enter (plainFor_of_name pn_2) fun p e s m below meth c s₁ X0 hx hby hml hown hnm hZ e0 hre hlk => ?_
  have N0 := Fr.nil n0
  have pre0 : ∀ t, SF p e below s₁ (mkF m 0 #[rv u1, rv u2, iv 0, iv (Int32.ofNat u3.length), .val .null, .unset] []) t → SF p e below s₁ (entryFrame m #[(.ref u1), (.ref u2), (.int 0), (.int (Int32.ofNat u3.length)), .null] 6) t := fun t k => castTop (ef_51 m u1 u2 (0 : Int32) (Int32.ofNat u3.length)) k
  obtain ⟨T1, X1, e1, st1⟩ := initO X0 hx hZ hown (tw hw 15 rfl) (tw hw 16 rfl) (tw hw 17 rfl) e0 (g := (mkF m 1 #[rv u1, rv u2, iv 0, iv (Int32.ofNat u3.length), .val .null, .unset] [(.ref u1)])) rfl (by rw [hml]; rfl) rfl (hb hby d3_1) (by decide) (W := 0) (Nat.le_of_eq rfl) (by decide)
  obtain ⟨T2, X2, e2, st2⟩ := getS2 X1 hx hZ hown (host := "") (Or.inl (tw hw 18 rfl)) Via.refl e1 (Sg0.ext P3.2) (g := (mkF m 27 #[rv u1, rv u2, iv 0, iv (Int32.ofNat u3.length), .val .null, .unset] [])) rfl (hb hby d3_27)
  obtain ⟨_, _, ⟨T3, L3, k3x, n3⟩, -, X3, ⟨Lc3, hQ3, l3, y3, z3⟩, st3⟩ := Jvm.LawKit.callS X2 hx (y := mq38) hown (mvT hZ (tw hw 19 rfl)) (mvT hZ (tw hw 20 rfl)) (mvT hZ (tw hw 21 rfl)) (mvT hZ (tw hw 22 rfl)) (by decide) (backOf (W := 0) (rm5_73 l Z a0 hw [] u2 u3 u4 GC GF h0 n0 Z0 P5 P6 P7 P8 P9 P10 P11 P12 P3 Sg4 Sg5 Sg6) hZ (tw hw 22 rfl) (tw hw 21 rfl) (by decide) (by decide)) (g := (mkF m 36 #[rv u1, rv u2, iv 0, iv (Int32.ofNat u3.length), .val .null, .unset] [(.int (Int32.ofNat u3.length)), (.int 0), (.ref u2)])) rfl (by rw [hml]; rfl) (argsL := [(.ref u2), (.int 0), (.int (Int32.ofNat u3.length))]) (rest := []) (lenOf pd_31 rfl) rfl (Nat.le_of_eq rfl) (hb hby d3_36) (fun _ _ => ⟨rfl, e2, (by decide : 0 + 2 ≤ _), (by decide : 0 + 9 ≤ _)⟩)
  dsimp only [Pt.U, Pt.locs, Pt.cells, Pt.slots] at X3 l3 y3 z3 st3 hQ3
  subst l3 y3 z3
  obtain ⟨e1x, e2x, bz_b56, rfl, N3q, K3c, Fq3_0, Fq3_1⟩ := hQ3
  have K3 : Keep h0 T3.heap [u1] := (Keep.refl h0 [u1]).trans K3c all0
  have N3 := Fr.app N0 N3q
  have Z3 : n0 ≤ T3.heap.size := Nat.le_trans Z0 K3c.1
  obtain ⟨_, _, ⟨T4, L4, k4x, n4⟩, -, X4, ⟨Lc4, hQ4, l4, y4, z4⟩, st4⟩ := Jvm.LawKit.callS X3 hx (y := mq37) hown (mvT hZ (tw hw 27 rfl)) (mvT hZ (tw hw 28 rfl)) (mvT hZ (tw hw 21 rfl)) (mvT hZ (tw hw 29 rfl)) (by decide) (backOf (W := 1) (rm7_74 l Z a0 hw [] e1x u3 e2x T3.heap n0 Z3 Fq3_0) hZ (tw hw 29 rfl) (tw hw 21 rfl) (by decide) (by decide)) (g := (mkF m 45 #[rv u1, rv u2, iv 0, iv (Int32.ofNat u3.length), .val .null, rv e1x] [(.int (Int32.ofNat u3.length)), (.ref e1x), (.ref u1)])) rfl (by rw [hml]; rfl) (argsL := [(.ref e1x), (.int (Int32.ofNat u3.length))]) (rest := [(.ref u1)]) (lenOf pd_32 rfl) rfl (Nat.le_of_eq rfl) (hb hby d3_45) (fun _ _ => ⟨rfl, rfl, (by decide : 2 + 0 ≤ _), (by decide : 9 + 0 ≤ _)⟩)
  dsimp only [Pt.U, Pt.locs, Pt.cells, Pt.slots] at X4 l4 y4 z4 st4 hQ4
  subst l4 y4 z4
  obtain ⟨rfl, N4q, e4⟩ := hQ4
  have N4 := Fr.app N3 N4q
  have F1_5 : Exa Z T3.heap u1 sq3 := P16.keep K3c
  have F1_6 : Fld Z T3.heap u1 sq3 "value" "[B" .null := P17.keep K3c nin0
  have F1_7 : Fld Z T3.heap u1 sq3 "coder" "B" (.int 0) := P18.keep K3c nin0
  obtain ⟨T8, h8, X8, e8, W8, st8⟩ := putFN X4 hx hZ hown (tw hw 30 rfl) Via.refl e4 F1_7 F1_5 (Or.inr ⟨(tw hw 31 rfl), rfl, hnm⟩) (tw hw 5 rfl) (ty := .byte) (v' := (.int (nar .byte (nar .byte (((((Int32.ofNat u3.length) - (Int32.ofNat (2 * u3.length))).toUInt32 >>> ((31 : Int32) &&& 31).toUInt32).toInt32).toInt8.toInt32))))) (by decide) rfl (fits_nar_byte _) (g := (mkF m 48 #[rv u1, rv u2, iv 0, iv (Int32.ofNat u3.length), .val .null, rv e1x] [(.int (nar .byte (((((Int32.ofNat u3.length) - (Int32.ofNat (2 * u3.length))).toUInt32 >>> ((31 : Int32) &&& 31).toUInt32).toInt32).toInt8.toInt32))), (.ref u1)])) rfl rfl (hb hby d3_48)
  have K8 : Keep h0 h8 [u1] := K3.wr W8 (Or.inl (List.mem_of_getElem? (i := 0) rfl))
  have N8 := Fr.snoc X8 N4 P19
  have Fw8 : Fld Z h8 u1 sq3 "coder" "B" (.int (nar .byte (nar .byte (((((Int32.ofNat u3.length) - (Int32.ofNat (2 * u3.length))).toUInt32 >>> ((31 : Int32) &&& 31).toUInt32).toInt32).toInt8.toInt32)))) := F1_7.same W8
  have F2_9 : Exa Z h8 u1 sq3 := F1_5.wr W8
  have F2_10 : Fld Z h8 u1 sq3 "value" "[B" .null := F1_6.other W8 (Or.inr (slot_ne (Or.inr (tw hw 33 rfl)) (Or.inr (tw hw 31 rfl)) (by decide) (t := (.array .byte)) (t' := .byte) (by decide) (by decide)))
  obtain ⟨T11, h11, X11, e11, W11, st11⟩ := putF X8 hx hZ hown (host := "") (Or.inl (tw hw 32 rfl)) Via.refl e8 F2_10 F2_9 (Or.inr ⟨(tw hw 33 rfl), rfl, hnm⟩) (tw hw 5 rfl) (ty := (.array .byte)) (by decide) rfl rfl (g := (mkF m 54 #[rv u1, rv u2, iv 0, iv (Int32.ofNat u3.length), .val .null, rv e1x] [(.ref e1x), (.ref u1)])) rfl rfl (hb hby d3_54)
  have K11 : Keep h0 h11 [u1] := K8.wr W11 (Or.inl (List.mem_of_getElem? (i := 0) rfl))
  have N11 := Fr.snoc X11 N8 P19
  have Fw11 : Fld Z h11 u1 sq3 "value" "[B" (.ref e1x) := F2_10.same W11
  have F3_12 : Exa Z h11 u1 sq3 := F2_9.wr W11
  have F3_13 : Fld Z h11 u1 sq3 "coder" "B" (.int (nar .byte (nar .byte (((((Int32.ofNat u3.length) - (Int32.ofNat (2 * u3.length))).toUInt32 >>> ((31 : Int32) &&& 31).toUInt32).toInt32).toInt8.toInt32)))) := Fw8.other W11 (Or.inr (slot_ne (Or.inr (tw hw 31 rfl)) (Or.inr (tw hw 33 rfl)) (by decide) (t := .byte) (t' := (.array .byte)) (by decide) (by decide)))
  have F2_14 : Arv Z h8 e1x e2x .byte (Int32.ofNat (2 * u3.length)) (own_wd u3) (.int (0 : Int32)) := Fq3_0.other W8 (Ne.symm (Nat.ne_of_lt (Nat.lt_of_lt_of_le P20 bz_b56)))
  have F3_15 : Arv Z h11 e1x e2x .byte (Int32.ofNat (2 * u3.length)) (own_wd u3) (.int (0 : Int32)) := F2_14.other W11 (Ne.symm (Nat.ne_of_lt (Nat.lt_of_lt_of_le P20 bz_b56)))
  have F2_16 : Exa Z h8 e1x "[B" := Fq3_1.wr W8
  have F3_17 : Exa Z h11 e1x "[B" := F2_16.wr W11
  have sz0_b56 : h0.size ≤ e1x := Nat.le_trans (Keep.refl h0 [u1]).1 bz_b56
  obtain ⟨fs, hr, hrun, hended, hW, hsame⟩ := X11.leave (v := none) (fun _ => rfl)
  refine ⟨_, _, pre0 _ ?_, hrun, hended, _, _, rfl, ?_, ⟨_, rfl⟩, hW, hsame.mono (by decide) (by decide)⟩
  · show SF p e below s₁ (mkF m 0 #[rv u1, rv u2, iv 0, iv (Int32.ofNat u3.length), .val .null, .unset] []) _
    refine XS.aloadN X0.here hx rfl (hb hby d3_0) rfl rfl ?_
    refine st1 _ ?_
    refine XS.iloadN X1.here hx rfl (hb hby d3_4) rfl ?_
    refine XS.ifYes X1.here hx rfl (pc0 := 5) (pc' := 27) rfl (hb hby d3_5) rfl ((if0 _ _).trans (feq P1).2) (by decide) (by decide) ?_
    refine st2 _ ?_
    refine XS.ifNo X2.here hx rfl (hb hby d3_30) rfl ((if0 _ _).trans (feq nzGC).1) ?_
    refine XS.aloadN X2.here hx rfl (hb hby d3_33) rfl rfl ?_
    refine XS.iloadN X2.here hx rfl (hb hby d3_34) rfl ?_
    refine XS.iloadN X2.here hx rfl (hb hby d3_35) rfl ?_
    refine st3 _ ?_
    refine XS.astore X3.here hx rfl (hb hby d3_39) rfl rfl (l' := #[rv u1, rv u2, iv 0, iv (Int32.ofNat u3.length), .val .null, rv e1x]) rfl ?_
    refine XS.aloadN X3.here hx rfl (hb hby d3_41) rfl rfl ?_
    refine XS.aload X3.here hx rfl (hb hby d3_42) rfl rfl ?_
    refine XS.iloadN X3.here hx rfl (hb hby d3_44) rfl ?_
    refine st4 _ ?_
    refine st8 _ ?_
    refine XS.aloadN X8.here hx rfl (hb hby d3_51) rfl rfl ?_
    refine XS.aload X8.here hx rfl (hb hby d3_52) rfl rfl ?_
    refine st11 _ ?_
    exact X11.returnOut hx hre (hb hby d3_57) hr
  · show Q3_75 Z u1 u2 u3 GC u4 GF h0 n0 _ T11.heap _
    rw [e11]
    exact ⟨e1x, e2x, sz0_b56, rfl, N11, K11, F3_12, Fw11, F3_13, F3_15, F3_17⟩
theorem pd_33 : parseMethodDescriptor "([CIILjava/lang/Void;)V" = some ⟨[(.array .char), .int, .int, (.object "java/lang/Void")], none⟩ := by decide +kernel
theorem d2_9 : D2 9 (.return_) 1 := by decide +kernel
theorem ef_52 (m : MethodId) (x0 : Addr) (x1 : Addr) : entryFrame m #[(.ref x0), (.ref x1)] 2 = mkF m 0 #[.val (.ref x0), .val (.ref x1)] [] := by first | (simp [entryFrame, mkF, argsToLocals, Value.category]; done) | rfl
def Q2_76 (Z : State) (u1 : Addr) (u2 : Addr) (u3 : ClassId) (u4 : List Int32) (GC : Int32) (GF : Value) (h0 : Heap) (n0 : Nat) (v : Option Value) (h : Heap) (L : List Loc) : Prop := ∃ e1x : Addr, ∃ e2x : ClassId, h0.size ≤ e1x ∧ v = none ∧ Fr n0 L ∧ Keep h0 h [u1] ∧ Exa Z h u1 sq3 ∧ Fld Z h u1 sq3 "value" "[B" (.ref e1x) ∧ Fld Z h u1 sq3 "coder" "B" (.int (nar .byte (nar .byte (((((Int32.ofNat u4.length) - (Int32.ofNat (2 * u4.length))).toUInt32 >>> ((31 : Int32) &&& 31).toUInt32).toInt32).toInt8.toInt32)))) ∧ Arv Z h e1x e2x .byte (Int32.ofNat (2 * u4.length)) (own_wd u4) (.int (0 : Int32)) ∧ Exa Z h e1x "[B"
theorem rm2_76 (l : Launch) (Z : State) (a0 : Array Value) (hw : HW Z a0) (ws : List Jvm.Cond) (u1 : Addr) (u2 : Addr) (u3 : ClassId) (u4 : List Int32) (GC : Int32) (GF : Value) (h0 : Heap) (n0 : Nat) (Z0 : n0 ≤ h0.size) (P1 : Arv Z h0 u2 u3 .char (Int32.ofNat u4.length) (own_ci u4) (.int (0 : Int32))) (P2 : ¬ ((Int32.ofNat u4.length) = (0 : Int32))) (Sg0 : Sta Z Z.heap sq3 "COMPACT_STRINGS" "Z" (.int GC)) (P4 : Old Z n0 h0) (nzGC : ¬ (GC = (0 : Int32))) (P6 : ¬ (Int32.ofNat u4.length) < 0) (P7 : ((Int32.ofNat u4.length)).toNatClampNeg ≤ 3) (P8 : u4.length < 4) (P9 : ∃ c ∈ u4, (255 : Int32) < c) (P10 : ∀ c ∈ u4, ¬ c < 0 ∧ ¬ (65535 : Int32) < c) (P11 : u2 < h0.size) (P12 : St Z GC GF) (Sg4 : Sta Z Z.heap sq5 "$assertionsDisabled" "Z" (.int 1)) (Sg5 : Sta Z Z.heap sq5 "HI_BYTE_SHIFT" "I" (.int 0)) (Sg6 : Sta Z Z.heap sq5 "LO_BYTE_SHIFT" "I" (.int 8)) (P16 : Exa Z h0 u1 sq3) (P17 : Fld Z h0 u1 sq3 "value" "[B" .null) (P18 : Fld Z h0 u1 sq3 "coder" "B" (.int 0)) (P19 : n0 ≤ u1) (P20 : u1 < h0.size) :
    MF l Z mq18 (Jvm.Cond.code mq18 jdk_42_method_3_code 2 none) ws ({ frames := 6, cells := 2, slots := 9, locals := 140 } : Room) #[(.ref u1), (.ref u2)] h0 (Q2_76 Z u1 u2 u3 u4 GC GF h0 n0) := by
  refine own_enter (plainFor_of_name pn_2) fun p e s m below meth c s₁ X0 hx hby hml hown hnm hZ e0 hre hlk => ?_
  have N0 := Fr.nil n0
  have pre0 : ∀ t, SF p e below s₁ (mkF m 0 #[rv u1, rv u2] []) t → SF p e below s₁ (entryFrame m #[(.ref u1), (.ref u2)] 2) t := fun t k => castTop (ef_52 m u1 u2) k
  obtain ⟨cl1, Ar1, q1, S1, N1z, H1, G1⟩ := id P1
  obtain ⟨_, _, ⟨T2, L2, k2x, n2⟩, -, X2, ⟨Lc2, hQ2, l2, y2, z2⟩, st2⟩ := X0.specialBack hx (y := mq19) rfl hown (mvT hZ (tw hw 11 rfl)) (mvT hZ (tw hw 12 rfl)) (mvT hZ (tw hw 14 rfl)) (by decide) (backOf (W := 0) (rm3_75 l Z a0 hw [] u1 u2 u4 GC u3 GF h0 n0 Z0 P2 Sg0 P4 nzGC P6 P7 P1 P8 P9 P10 P11 P12 Sg4 Sg5 Sg6 P16 P17 P18 P19 P20) hZ (tw hw 14 rfl) (tw hw 6 rfl) (by decide) (by decide)) (g := (mkF m 6 #[rv u1, rv u2] [.null, (.int (Int32.ofNat u4.length)), (.int 0), (.ref u2), (.ref u1)])) rfl (by rw [hml]; rfl) (Steps.refl _) (a := u1) (argsL := [(.ref u2), (.int 0), (.int (Int32.ofNat u4.length)), .null]) (rest := []) (lenOf pd_33 rfl) rfl (Nat.le_of_eq rfl) (hb hby d2_6) (fun _ _ => ⟨rfl, e0, (by decide : 0 + 2 ≤ _), (by decide : 0 + 9 ≤ _)⟩)
  dsimp only [Pt.U, Pt.locs, Pt.cells, Pt.slots] at X2 l2 y2 z2 st2 hQ2
  subst l2 y2 z2
  obtain ⟨e1x, e2x, bz_b58, rfl, N2q, K2c, Fq2_0, Fq2_1, Fq2_2, Fq2_3, Fq2_4⟩ := hQ2
  have K2 : Keep h0 T2.heap [u1] := (Keep.refl h0 [u1]).trans K2c (allS (Or.inl (List.mem_of_getElem? (i := 0) rfl)) all0)
  have N2 := Fr.app N0 N2q
  have sz0_b58 : h0.size ≤ e1x := Nat.le_trans (Keep.refl h0 [u1]).1 bz_b58
  obtain ⟨fs, hr, hrun, hended, hW, hsame⟩ := X2.leave (v := none) (fun _ => rfl)
  refine ⟨_, _, pre0 _ ?_, hrun, hended, _, _, rfl, ?_, ⟨_, rfl⟩, hW, hsame.mono (by decide) (by decide)⟩
  · show SF p e below s₁ (mkF m 0 #[rv u1, rv u2] []) _
    refine XS.aloadN X0.here hx rfl (hb hby d2_0) rfl rfl ?_
    refine XS.aloadN X0.here hx rfl (hb hby d2_1) rfl rfl ?_
    refine XS.iconst X0.here hx rfl (hb hby d2_2) ?_
    refine XS.aloadN X0.here hx rfl (hb hby d2_3) rfl rfl ?_
    refine X0.arraylength hx (by rw [e0]; exact Ar1.1) (State.isArrayOf_alike hZ.alike Ar1.2.1) (g := (mkF m 4 #[rv u1, rv u2] [(.ref u2), (.int 0), (.ref u2), (.ref u1)])) rfl rfl (hb hby d2_4) _ ?_
    rw [len_of S1 N1z]
    refine XS.aconstNull X0.here hx rfl (hb hby d2_5) ?_
    refine st2.trans ?_
    exact X2.returnOut hx hre (hb hby d2_9) hr
  · show Q2_76 Z u1 u2 u3 u4 GC GF h0 n0 _ T2.heap _
    exact ⟨e1x, e2x, sz0_b58, rfl, N2, K2, Fq2_0, Fq2_1, Fq2_2, Fq2_3, Fq2_4⟩
theorem own_words : ∀ d ∈ StrChars.Road.words, d ∈ tables_1 := by decide +kernel
theorem mkA {p : Program} {l : Launch} {e : Env} {R : Room} {s : State} {args : Array Value} {below : List Frame} {len W : Nat} {Z : State} {a0 : Array Value} {h : Heap} (hZ : Z.Warmed39 s.vm) (hw : HW Z a0) {GC : Int32} {GF : Value} (S : St Z GC GF) {n0 : Nat} (Z0 : n0 ≤ h.size) (O : Old Z n0 h) {sta vaa : Addr} {kva : ClassId} {cs : List Int32} (E : Exa Z h sta sq3) (V : Fld Z h sta sq3 "value" "[B" .null) (C : Fld Z h sta sq3 "coder" "B" (.int 0)) (K : Arv Z h vaa kva .char (Int32.ofNat cs.length) (own_ci cs) (.int (0 : Int32))) (gx : n0 ≤ sta) (hb : ∀ c ∈ cs, ¬ c < 0 ∧ ¬ (65535 : Int32) < c) (h0 : 0 < cs.length) (hk : cs.length < 4) (hfr : 7 ≤ R.frames) (hlo : W + 153 ≤ R.locals) :
    Back l R p e below s args mq18 len W (fun P a => a = #[.ref sta, .ref vaa] ∧ P.U.heap = h ∧ P.cells + 2 ≤ R.cells ∧ P.slots + 9 ≤ R.slots)
      (fun P _ v B => ∃ L, (v = none ∧ Fr n0 L ∧ Keep h B.U.heap [sta] ∧ ∃ t, h.size ≤ t ∧ Str Z B.U.heap sta t cs) ∧ B.locs = P.locs ++ L ∧ B.cells ≤ P.cells + 2 ∧ B.slots ≤ P.slots + 9) := by
  by_cases hex : ∃ c ∈ cs, (255 : Int32) < c
  · have hM := rm2_76 l Z a0 hw [] sta vaa kva cs GC GF h n0 Z0 K (own_all1 4 (C := fun q => (0 < q)) (P := fun q => ¬ ((Int32.ofNat q) = (0 : Int32))) (by decide +kernel) cs.length hk h0) S.1 O S.2.2.2.1 (own_all1 4 (C := fun q => (0 < q)) (P := fun q => ¬ (Int32.ofNat q) < 0) (by decide +kernel) cs.length hk h0) (own_all1 4 (C := fun q => (0 < q)) (P := fun q => ((Int32.ofNat q)).toNatClampNeg ≤ 3) (by decide +kernel) cs.length hk h0) hk hex hb K.lt S S.2.2.2.2.1 S.2.2.2.2.2.1 S.2.2.2.2.2.2 E V C gx E.lt
    refine Back.mono (backOf (W := W) hM hZ (tw hw 10 rfl) (tw hw 6 rfl) (by show 6 + 1 ≤ _; omega) (by show W + (2 + 11) + 140 ≤ _; omega)) (fun _ _ q => q) (fun P a v B _ q => ?_)
    obtain ⟨L, ⟨b1, k3, s1, q1, q2, q3, f0, f1, f2, f3, f4⟩, r1, r2, r3⟩ := q
    have ec : (nar .byte (nar .byte (((((Int32.ofNat cs.length) - (Int32.ofNat (2 * cs.length))).toUInt32 >>> ((31 : Int32) &&& 31).toUInt32).toInt32).toInt8.toInt32))) = 1 := (own_all1 4 (C := fun q => (0 < q)) (P := fun q => (nar .byte (nar .byte (((((Int32.ofNat q) - (Int32.ofNat (2 * q))).toUInt32 >>> ((31 : Int32) &&& 31).toUInt32).toInt32).toInt8.toInt32))) = 1) (by decide +kernel) cs.length hk h0)
    rw [ec] at f2
    exact ⟨L, ⟨q1, q2, q3, b1, s1, k3, _, _, _, f0, f1, f2, f3, Or.inr ⟨rfl, rfl, rfl, hex⟩⟩, r1, Nat.le_of_eq r2, Nat.le_of_eq r3⟩
  · have hall : ∀ c ∈ cs, ¬ c < 0 ∧ ¬ (255 : Int32) < c := fun c hc => ⟨(hb c hc).1, fun q => hex ⟨c, hc, q⟩⟩
    refine Back.mono (StrChars.Road.backV (W := W) (kI := 4) (n := cs.length) hZ (fun d hd => hw d (own_words d hd)) (tw hw 5 rfl) gx Z0 E V C K (S.1.ext O.2) S.2.2.2.1 rfl rfl h0 (by omega) hall rfl (by omega) (by omega)) (fun P a q => ⟨q.1, q.2.1, by omega, by omega⟩) (fun P a v B _ q => ?_)
    obtain ⟨L, ⟨q1, q2, q3, q4, q5, t, kb, q6, q7, q8, q9, q10⟩, r1, r2, r3⟩ := q
    exact ⟨L, ⟨q1, q2, q3, t, q7, kb, _, _, _, q4, q9, q5, q10, Or.inl ⟨rfl, rfl, by rw [List.map_map]; rfl, fun c hc => (hall c hc).2⟩⟩, r1, by omega, by omega⟩
theorem Bld.ext {Z : State} {h h' : Heap} {n0 b : Nat} {sb t : Addr} {cs : List Int32} (B : Bld Z h n0 b sb t cs) (E : Ext h h') : Bld Z h' n0 b sb t cs := by
  obtain ⟨k, n, cd, a1, a2, a3, a4, a5, a6, a7, a8, a9, a10, a11, a12, a13⟩ := B
  exact ⟨k, n, cd, a1.ext E, a2.ext E, a3.ext E, a4.ext E, a5.ext E, a6.ext E, a7, a8, a9, a10, a11, a12, a13.imp (fun q => ⟨q.1, q.2.1.ext E, q.2.2⟩) (fun q => ⟨q.1, q.2.1.ext E, q.2.2⟩)⟩
theorem Str.ext {Z : State} {h h' : Heap} {x t : Addr} {cs : List Int32} (B : Str Z h x t cs) (E : Ext h h') : Str Z h' x t cs := by
  obtain ⟨k, cd, n, vs, a1, a2, a3, a4, a5⟩ := B
  exact ⟨k, cd, n, vs, a1.ext E, a2.ext E, a3.ext E, a4.ext E, a5⟩
theorem Str.keep {Z : State} {h h' : Heap} {x t : Addr} {cs : List Int32} {ws : List Addr} (B : Str Z h x t cs) (K : Keep h h' ws) (n1 : x ∉ ws) (n2 : t ∉ ws) : Str Z h' x t cs := by
  obtain ⟨k, cd, n, vs, a1, a2, a3, a4, a5⟩ := B
  exact ⟨k, cd, n, vs, a1.keep K, a2.keep K n1, a3.keep K n1, a4.keep K n2, a5⟩
def FinW (p : Program) (e : Env) (below : List Frame) (F : Outcome → State → Prop) (S0 : State) : Prop := ∃ s₂ o, Steps p.tables e below S0 s₂ ∧ s₂.status = .running ∧ Ended s₂ below o ∧ F o s₂
theorem FinW.pre {p : Program} {e : Env} {below : List Frame} {S0 S1 : State} {F : Outcome → State → Prop} (k : ∀ t, Steps p.tables e below S1 t → Steps p.tables e below S0 t) (h : FinW p e below F S1) : FinW p e below F S0 := by
  obtain ⟨u, o, h1, h2⟩ := h; exact ⟨u, o, k _ h1, h2⟩
theorem own_miss {k : Int32} (h1 : ¬ k = 92) (h2 : ¬ k = 9) (h3 : ¬ k = 10) (h4 : ¬ k = 13) : (#[((9 : Int), (53 : Int)), (10, 63), (13, 73), (92, 43)] : Array (Int × Int)).find? (·.1 == k.toInt) = none := by
  have t : ∀ (x : Int32), ¬ k = x → ¬ x.toInt = k.toInt := fun x hx e => hx (Int32.toInt_inj.mp e.symm)
  have t1 := t 9 h2; have t2 := t 10 h3; have t3 := t 13 h4; have t4 := t 92 h1
  simp only [show (9 : Int32).toInt = 9 from rfl, show (10 : Int32).toInt = 10 from rfl, show (13 : Int32).toInt = 13 from rfl, show (92 : Int32).toInt = 92 from rfl] at t1 t2 t3 t4
  rw [Array.find?_eq_none]
  intro x hx
  simp only [List.mem_toArray, List.mem_cons, List.not_mem_nil, or_false] at hx
  rcases hx with rfl | rfl | rfl | rfl <;> simpa using (by assumption)
abbrev D8 (n : Nat) (i : Instr) (k : Nat) : Prop := decode prog_41_method_4_code n = .ok (i, k)
theorem d8_14 : D8 14 (.iload_n 2) 1 := by decide +kernel
theorem d8_15 : D8 15 (.aload_n 0) 1 := by decide +kernel
theorem d8_16 : D8 16 (.invokevirtual 110) 3 := by decide +kernel
theorem d8_19 : D8 19 (.if_icmp .ge 105) 3 := by decide +kernel
theorem d8_22 : D8 22 (.aload_n 0) 1 := by decide +kernel
theorem d8_23 : D8 23 (.iload_n 2) 1 := by decide +kernel
theorem d8_24 : D8 24 (.invokevirtual 114) 3 := by decide +kernel
theorem d8_27 : D8 27 (.istore_n 3) 1 := by decide +kernel
theorem d8_28 : D8 28 (.iload_n 3) 1 := by decide +kernel
theorem d8_29 : D8 29 (.lookupswitch 83 #[(9, 53), (10, 63), (13, 73), (92, 43)]) 43 := by decide +kernel
theorem d8_72 : D8 72 (.aload_n 1) 1 := by decide +kernel
theorem d8_73 : D8 73 (.ldc 118) 2 := by decide +kernel
theorem own_strA : ∀ d ∈ Bundle.stringAtoms, d ∈ tables_1 := by decide +kernel
theorem d8_75 : D8 75 (.invokevirtual 104) 3 := by decide +kernel
theorem pd_34 : parseMethodDescriptor "(Ljava/lang/String;)Ljava/lang/StringBuilder;" = some ⟨[(.object sq3)], some (.object sq4)⟩ := by decide +kernel
theorem d8_78 : D8 78 (.pop) 1 := by decide +kernel
theorem d8_79 : D8 79 (.goto 39) 3 := by decide +kernel
theorem d8_118 : D8 118 (.iinc 2 1) 3 := by decide +kernel
theorem d8_121 : D8 121 (.goto (-107)) 3 := by decide +kernel
theorem ef_53 (m : MethodId) (x0 : Addr) : entryFrame m #[(.ref x0)] 4 = mkF m 0 #[.val (.ref x0), .unset, .unset, .unset] [] := by first | (simp [entryFrame, mkF, argsToLocals, Value.category]; done) | rfl
theorem tn92 {p : Program} {l : Launch} {e : Env} {s : State} {m : MethodId} {below : List Frame} {meth : Method} {c : Code} {T0 : State} {locs : List Loc} {Z : State} {a0 : Array Value} {h0 : Heap} {n0 : Nat} {vm0 : Vm} {k0 ce sl : Nat} {F : Outcome → State → Prop} {GC : Int32} {GF : Value} {sxa sxt sba ta : Addr} {cs bs : List Int32} {ia : Nat} {z3 : Slot} (X0 : Stand p l e ({ frames := 10, cells := 30, slots := 400, locals := 200 } : Room) (s.setVm vm0) m #[(.ref sxa)] below meth c T0 locs ce sl) (hx : p.tables.exec = Jvm.exec) (hZ : Z.Warmed39 (s.setVm vm0).vm) (hw : HW Z a0) (hby : c.code = prog_41_method_4_code) (hml : c.maxLocals = 4) (hown : (s.setVm vm0).vm.findClass sq0 = some m.cls) (hre : meth.sig.returnType = some (.object sq3)) (hlk : meth.locks = false) (e0 : T0.heap = h0) (N0 : Fr n0 locs) (Z0 : n0 ≤ h0.size) (hS0 : s.Since vm0 k0) (hk0 : k0 ≤ h0.size) (hEL : EW Z a0 consts_1) (H0 : CHv Z consts_1 vm0 h0) (S : St Z GC GF) (O : Old Z n0 h0) (Bs : Str Z h0 sxa sxt cs) (hbc : ∀ c ∈ cs, ¬ c < 0 ∧ ¬ (65535 : Int32) < c) (hk7 : cs.length < 7) (hi : ia < cs.length) (hz3 : z3 = Slot.unset ∨ ∃ x : Int32, z3 = iv x) (Bb : Bld Z h0 n0 1 sba ta bs) (hbk : bs.length < 5) (hbn : ∀ c ∈ bs, ¬ c < 0) (St0 : Safe Z consts_1 vm0 h0 ta) (ltt : ta < h0.size) (nx1 : sxa ≠ sba) (nx2 : sxa ≠ ta) (nx3 : sxt ≠ sba) (nx4 : sxt ≠ ta) (hce : ce + 4 ≤ 30) (hsl : sl + 60 ≤ 400) (hkc : cs.getD ia 0 = 92)
    (kk : ∀ (T1 : State) (L1 : List Loc) (vm1 : Vm) (k1 ce1 sl1 : Nat) (t1 : Addr), Stand p l e ({ frames := 10, cells := 30, slots := 400, locals := 200 } : Room) (s.setVm vm1) m #[(.ref sxa)] below meth c T1 L1 ce1 sl1 → ce1 ≤ ce + 4 → sl1 ≤ sl + 60 → Fr n0 L1 → h0.size ≤ T1.heap.size → s.Since vm1 k1 → k1 ≤ T1.heap.size → Z.Warmed39 (s.setVm vm1).vm → (s.setVm vm1).vm.findClass sq0 = some m.cls → CHr Z consts_1 vm0 h0 vm1 T1.heap → Keep h0 T1.heap [sba, ta] → Str Z T1.heap sxa sxt cs → Bld Z T1.heap n0 1 sba t1 (bs ++ [92, 92]) → Safe Z consts_1 vm1 T1.heap t1 → (t1 = ta ∨ h0.size ≤ t1) → FinW p e below F (T1.setTop (mkF m 14 #[rv sxa, rv sba, iv ((Int32.ofNat ia) + (1 : Int32)), iv (cs.getD ia 0)] []))) :
    FinW p e below F (T0.setTop (mkF m 14 #[rv sxa, rv sba, iv (Int32.ofNat ia), z3] [])) := by
  have P1 : Exa Z h0 sxa sq3 := Bs.choose_spec.choose_spec.choose_spec.choose_spec.1
  have P2 : St Z GC GF := S
  have P3 : Old Z n0 h0 := O
  have P4 : ∀ c ∈ cs, ¬ c < 0 ∧ ¬ (65535 : Int32) < c := hbc
  have P5 : cs.length < 7 := hk7
  have P6 : (Int32.ofNat ia) < (Int32.ofNat cs.length) := (Jvm.Free.XT.lt32 (by omega) hi)
  have P7 : ia < cs.length := hi
  have P8 : z3 = Slot.unset ∨ ∃ x : Int32, z3 = iv x := hz3
  have P9 : Exa Z h0 sba sq4 := Bb.choose_spec.choose_spec.choose_spec.1
  obtain ⟨cq1, kq1, q1a, q1b, q1c⟩ := isOf hZ e0 P1
  obtain ⟨_, _, ⟨T1, L1, k1x, n1⟩, -, X1, ⟨Lc1, hQ1, l1, y1, z1⟩, st1⟩ := X0.virtualBack hx (y := mq26) (z := mq26) hown (mvT hZ (tw hw 41 rfl)) (mvT hZ (tw hw 42 rfl)) (notFace_of_selects (args := #[]) (mvT hZ (tw hw 44 rfl))) (mvT hZ (tw hw 44 rfl)) (mvT hZ (tw hw 43 rfl)) (by decide) (lenA (W := 1) hZ hw P2 P3 Bs P4 P5 (by decide) (by decide)) q1a q1c (g := (mkF m 16 #[rv sxa, rv sba, iv (Int32.ofNat ia), z3] [(.ref sxa), (.int (Int32.ofNat ia))])) rfl (by rw [hml]; rfl) (Steps.refl _) (argsL := []) (rest := [(.int (Int32.ofNat ia))]) (lenOf pd_19 rfl) rfl (Nat.le_of_eq rfl) (hb hby d8_16) (fun _ _ => ⟨rfl, e0, (by dsimp only [Pt.cells, Pt.slots]; omega), (by dsimp only [Pt.cells, Pt.slots]; omega)⟩)
  dsimp only [Pt.U, Pt.locs, Pt.cells, Pt.slots] at X1 l1 y1 z1 st1 hQ1
  subst l1 y1 z1
  obtain ⟨rfl, N1q, e1⟩ := hQ1
  have N1 := Fr.app N0 N1q
  obtain ⟨cq2, kq2, q2a, q2b, q2c⟩ := isOf hZ e1 P1
  obtain ⟨_, _, ⟨T2, L2, k2x, n2⟩, -, X2, ⟨Lc2, hQ2, l2, y2, z2⟩, st2⟩ := X1.virtualBack hx (y := mq20) (z := mq20) hown (mvT hZ (tw hw 66 rfl)) (mvT hZ (tw hw 67 rfl)) (notFace_of_selects (args := #[]) (mvT hZ (tw hw 69 rfl))) (mvT hZ (tw hw 69 rfl)) (mvT hZ (tw hw 68 rfl)) (by decide) (chA (W := 0) hZ hw P2 Z0 P3 Bs P4 P5 P7 (j := (Int32.ofNat ia)) rfl (by decide) (by decide)) q2a q2c (g := (mkF m 24 #[rv sxa, rv sba, iv (Int32.ofNat ia), z3] [(.int (Int32.ofNat ia)), (.ref sxa)])) rfl (by rw [hml]; rfl) (Steps.refl _) (argsL := [(.int (Int32.ofNat ia))]) (rest := []) (lenOf pd_29 rfl) rfl (Nat.le_of_eq rfl) (hb hby d8_24) (fun _ _ => ⟨rfl, e1, (by dsimp only [Pt.cells, Pt.slots]; omega), (by dsimp only [Pt.cells, Pt.slots]; omega)⟩)
  dsimp only [Pt.U, Pt.locs, Pt.cells, Pt.slots] at X2 l2 y2 z2 st2 hQ2
  subst l2 y2 z2
  obtain ⟨rfl, N2q, e2⟩ := hQ2
  have N2 := Fr.app N1 N2q
  have hwSA : ∀ d ∈ Bundle.stringAtoms, d.before a0 Z = true := fun d hd => hw d (own_strA d hd)
  obtain ⟨lsa, T3, h3, kq3, lsb, lkb, X3, e3, E3, hS3, hk3, hZ3, hown3, Ls1, Ls2, Ls3, Ls4, Ls5, Ls6, hR3, -, hsf3, st3⟩ := ldcCH (s := s) (vm0 := vm0) X2 hx hZ hown (tw hw 88 rfl) hwSA e2 hS0 hk0 hEL (by decide) H0 (vs := own_lo [92, 92]) (z := 2) ⟨by decide, by decide⟩ (by decide) (by decide) (g := (mkF m 73 #[rv sxa, rv sba, iv (Int32.ofNat ia), iv (cs.getD ia 0)] [(.ref sba)])) rfl (hb hby d8_73) (n := 8) (by decide) (by decide) (by show _ ≤ 30; omega) (by show _ ≤ 400; omega)
  have K3 : Keep h0 h3 [sba, ta] := (Keep.refl h0 [sba, ta]).ext E3
  have F1_4 : Exa Z h3 sba sq4 := P9.ext E3
  have Sa : Safe Z consts_1 T3.vm h3 sba := Safe.exa hZ3.alike (Bb.choose_spec.choose_spec.choose_spec.1.ext E3) (by decide) (by decide)
  have St' : Safe Z consts_1 T3.vm h3 ta := hR3.safe ltt St0
  have BE := Bb.ext E3
  have Z3 : n0 ≤ h3.size := Nat.le_trans Z0 E3.1
  have O3 : Old Z n0 h3 := P3.ext E3
  obtain ⟨cq5, kq5, q5a, q5b, q5c⟩ := isOf hZ3 e3 F1_4
  obtain ⟨_, _, ⟨T5, L5, k5x, n5⟩, -, X5, ⟨Lc5, hQ5, l5, y5, z5⟩, st5⟩ := X3.virtualBack hx (y := mq29) (z := mq29) hown3 (mvT hZ3 (tw hw 91 rfl)) (mvT hZ3 (tw hw 92 rfl)) (notFace_of_selects (args := #[]) (mvT hZ3 (tw hw 94 rfl))) (mvT hZ3 (tw hw 94 rfl)) (mvT hZ3 (tw hw 93 rfl)) (by decide) (backOf (W := 0) (sbs l Z a0 hw [] GC GF sba ta lsa lsb lkb bs 92 92 h3 n0 Z3 S O3 BE hbk Ls1 Ls3 Ls2 Ls4 (Ne.symm (hsf3 _ Sa).1) (Ne.symm (hsf3 _ Sa).2) (Ne.symm (hsf3 _ St').1) (Ne.symm (hsf3 _ St').2) (by decide)) hZ3 (tw hw 95 rfl) (tw hw 40 rfl) (by decide) (by decide)) q5a q5c (g := (mkF m 75 #[rv sxa, rv sba, iv (Int32.ofNat ia), iv (cs.getD ia 0)] [(.ref lsa), (.ref sba)])) rfl (by rw [hml]; rfl) (Steps.refl _) (argsL := [(.ref lsa)]) (rest := []) (lenOf pd_34 rfl) rfl (Nat.le_of_eq rfl) (hb hby d8_75) (fun _ _ => ⟨rfl, e3, (by dsimp only [Pt.cells, Pt.slots]; omega), (by dsimp only [Pt.cells, Pt.slots]; omega)⟩)
  dsimp only [Pt.U, Pt.locs, Pt.cells, Pt.slots] at X5 l5 y5 z5 st5 hQ5
  subst l5 y5 z5
  obtain ⟨tq, horq, rfl, N5q, K5c, Bq⟩ := hQ5
  have K5 : Keep h0 T5.heap [sba, ta] := K3.trans K5c (allS (Or.inl (List.mem_of_getElem? (i := 0) rfl)) (allS (Or.inl (List.mem_of_getElem? (i := 1) rfl)) all0))
  have N5 := Fr.app N2 N5q
  have Z5 : n0 ≤ T5.heap.size := Nat.le_trans Z3 K5c.1
  have hkk5_2 : kq3 ≤ T5.heap.size := Nat.le_trans hk3 K5c.1
  have hsafe : ∀ x ∈ [sba, ta], Safe Z consts_1 T3.vm h3 x := by
    intro x hx; rcases List.mem_cons.mp hx with rfl | hx
    · exact Sa
    · rw [List.mem_singleton.mp hx]; exact St'
  have Hh := hR3.1
  have hCr := hR3.trans (CHr.keep K5c hsafe Hh)
  have Sq : Safe Z consts_1 T3.vm T5.heap tq := Safe.keep K5c hsafe Hh (by rcases horq with rfl | q; exact St'; exact Safe.new q)
  have Bsq : Str Z T5.heap sxa sxt cs := (Bs.ext E3).keep K5c (ninS nx1 (ninS nx2 nin0)) (ninS nx3 (ninS nx4 nin0))
  have hor2 : tq = ta ∨ h0.size ≤ tq := horq.imp id (fun q => Nat.le_trans E3.1 q)
  refine FinW.pre (fun t k => ?_) (kk T5 _ T3.vm _ _ _ tq X5 (by omega) (by omega) N5 K5.1 hS3 hkk5_2 hZ3 hown3 hCr K5 Bsq Bq Sq hor2)
  show SF p e below T0 (mkF m 14 #[rv sxa, rv sba, iv (Int32.ofNat ia), z3] []) _
  refine XS.iloadN X0.here hx rfl (hb hby d8_14) rfl ?_
  refine XS.aloadN X0.here hx rfl (hb hby d8_15) rfl rfl ?_
  refine st1.trans ?_
  refine XS.icmpNo X1.here hx rfl (hb hby d8_19) rfl (tlt P6).2.1 ?_
  refine XS.aloadN X1.here hx rfl (hb hby d8_22) rfl rfl ?_
  refine XS.iloadN X1.here hx rfl (hb hby d8_23) rfl ?_
  refine st2.trans ?_
  refine XS.istoreN X2.here hx rfl (hb hby d8_27) rfl (l' := #[rv sxa, rv sba, iv (Int32.ofNat ia), iv (cs.getD ia 0)]) (by rcases P8 with h | ⟨_, h⟩ <;> subst h <;> rfl) ?_
  refine XS.iloadN X2.here hx rfl (hb hby d8_28) rfl ?_
  refine own_lswHit X2 hx (g := (mkF m 29 #[rv sxa, rv sba, iv (Int32.ofNat ia), iv (cs.getD ia 0)] [(.int (cs.getD ia 0))])) rfl rfl (hb hby d8_29) (by decide) (a := 92) (off := 43) (by rw [hkc]; rfl) (pc' := 72) (show (0 : Int) ≤ ((29 : Nat) : Int) + 43 by decide) (show (((29 : Nat) : Int) + 43).toNat = 72 by decide) ?_
  refine XS.aloadN X2.here hx rfl (hb hby d8_72) rfl rfl ?_
  refine st3 _ ?_
  refine st5.trans ?_
  refine XS.pop X5.here hx rfl (hb hby d8_78) rfl rfl ?_
  refine XS.goto X5.here hx rfl (pc0 := 79) (pc' := 118) rfl (hb hby d8_79) (by decide) (by decide) ?_
  refine XS.iinc X5.here hx rfl (hb hby d8_118) rfl (l' := #[rv sxa, rv sba, iv ((Int32.ofNat ia) + (1 : Int32)), iv (cs.getD ia 0)]) rfl ?_
  refine XS.goto X5.here hx rfl (pc0 := 121) (pc' := 14) rfl (hb hby d8_121) (by decide) (by decide) ?_
  exact k
theorem d8_82 : D8 82 (.aload_n 1) 1 := by decide +kernel
theorem d8_83 : D8 83 (.ldc 120) 2 := by decide +kernel
theorem d8_85 : D8 85 (.invokevirtual 104) 3 := by decide +kernel
theorem d8_88 : D8 88 (.pop) 1 := by decide +kernel
theorem d8_89 : D8 89 (.goto 29) 3 := by decide +kernel
theorem tn9 {p : Program} {l : Launch} {e : Env} {s : State} {m : MethodId} {below : List Frame} {meth : Method} {c : Code} {T0 : State} {locs : List Loc} {Z : State} {a0 : Array Value} {h0 : Heap} {n0 : Nat} {vm0 : Vm} {k0 ce sl : Nat} {F : Outcome → State → Prop} {GC : Int32} {GF : Value} {sxa sxt sba ta : Addr} {cs bs : List Int32} {ia : Nat} {z3 : Slot} (X0 : Stand p l e ({ frames := 10, cells := 30, slots := 400, locals := 200 } : Room) (s.setVm vm0) m #[(.ref sxa)] below meth c T0 locs ce sl) (hx : p.tables.exec = Jvm.exec) (hZ : Z.Warmed39 (s.setVm vm0).vm) (hw : HW Z a0) (hby : c.code = prog_41_method_4_code) (hml : c.maxLocals = 4) (hown : (s.setVm vm0).vm.findClass sq0 = some m.cls) (hre : meth.sig.returnType = some (.object sq3)) (hlk : meth.locks = false) (e0 : T0.heap = h0) (N0 : Fr n0 locs) (Z0 : n0 ≤ h0.size) (hS0 : s.Since vm0 k0) (hk0 : k0 ≤ h0.size) (hEL : EW Z a0 consts_1) (H0 : CHv Z consts_1 vm0 h0) (S : St Z GC GF) (O : Old Z n0 h0) (Bs : Str Z h0 sxa sxt cs) (hbc : ∀ c ∈ cs, ¬ c < 0 ∧ ¬ (65535 : Int32) < c) (hk7 : cs.length < 7) (hi : ia < cs.length) (hz3 : z3 = Slot.unset ∨ ∃ x : Int32, z3 = iv x) (Bb : Bld Z h0 n0 1 sba ta bs) (hbk : bs.length < 5) (hbn : ∀ c ∈ bs, ¬ c < 0) (St0 : Safe Z consts_1 vm0 h0 ta) (ltt : ta < h0.size) (nx1 : sxa ≠ sba) (nx2 : sxa ≠ ta) (nx3 : sxt ≠ sba) (nx4 : sxt ≠ ta) (hce : ce + 4 ≤ 30) (hsl : sl + 60 ≤ 400) (hkc : cs.getD ia 0 = 9)
    (kk : ∀ (T1 : State) (L1 : List Loc) (vm1 : Vm) (k1 ce1 sl1 : Nat) (t1 : Addr), Stand p l e ({ frames := 10, cells := 30, slots := 400, locals := 200 } : Room) (s.setVm vm1) m #[(.ref sxa)] below meth c T1 L1 ce1 sl1 → ce1 ≤ ce + 4 → sl1 ≤ sl + 60 → Fr n0 L1 → h0.size ≤ T1.heap.size → s.Since vm1 k1 → k1 ≤ T1.heap.size → Z.Warmed39 (s.setVm vm1).vm → (s.setVm vm1).vm.findClass sq0 = some m.cls → CHr Z consts_1 vm0 h0 vm1 T1.heap → Keep h0 T1.heap [sba, ta] → Str Z T1.heap sxa sxt cs → Bld Z T1.heap n0 1 sba t1 (bs ++ [92, 116]) → Safe Z consts_1 vm1 T1.heap t1 → (t1 = ta ∨ h0.size ≤ t1) → FinW p e below F (T1.setTop (mkF m 14 #[rv sxa, rv sba, iv ((Int32.ofNat ia) + (1 : Int32)), iv (cs.getD ia 0)] []))) :
    FinW p e below F (T0.setTop (mkF m 14 #[rv sxa, rv sba, iv (Int32.ofNat ia), z3] [])) := by
  have P1 : Exa Z h0 sxa sq3 := Bs.choose_spec.choose_spec.choose_spec.choose_spec.1
  have P2 : St Z GC GF := S
  have P3 : Old Z n0 h0 := O
  have P4 : ∀ c ∈ cs, ¬ c < 0 ∧ ¬ (65535 : Int32) < c := hbc
  have P5 : cs.length < 7 := hk7
  have P6 : (Int32.ofNat ia) < (Int32.ofNat cs.length) := (Jvm.Free.XT.lt32 (by omega) hi)
  have P7 : ia < cs.length := hi
  have P8 : z3 = Slot.unset ∨ ∃ x : Int32, z3 = iv x := hz3
  have P9 : Exa Z h0 sba sq4 := Bb.choose_spec.choose_spec.choose_spec.1
  obtain ⟨cq1, kq1, q1a, q1b, q1c⟩ := isOf hZ e0 P1
  obtain ⟨_, _, ⟨T1, L1, k1x, n1⟩, -, X1, ⟨Lc1, hQ1, l1, y1, z1⟩, st1⟩ := X0.virtualBack hx (y := mq26) (z := mq26) hown (mvT hZ (tw hw 41 rfl)) (mvT hZ (tw hw 42 rfl)) (notFace_of_selects (args := #[]) (mvT hZ (tw hw 44 rfl))) (mvT hZ (tw hw 44 rfl)) (mvT hZ (tw hw 43 rfl)) (by decide) (lenA (W := 1) hZ hw P2 P3 Bs P4 P5 (by decide) (by decide)) q1a q1c (g := (mkF m 16 #[rv sxa, rv sba, iv (Int32.ofNat ia), z3] [(.ref sxa), (.int (Int32.ofNat ia))])) rfl (by rw [hml]; rfl) (Steps.refl _) (argsL := []) (rest := [(.int (Int32.ofNat ia))]) (lenOf pd_19 rfl) rfl (Nat.le_of_eq rfl) (hb hby d8_16) (fun _ _ => ⟨rfl, e0, (by dsimp only [Pt.cells, Pt.slots]; omega), (by dsimp only [Pt.cells, Pt.slots]; omega)⟩)
  dsimp only [Pt.U, Pt.locs, Pt.cells, Pt.slots] at X1 l1 y1 z1 st1 hQ1
  subst l1 y1 z1
  obtain ⟨rfl, N1q, e1⟩ := hQ1
  have N1 := Fr.app N0 N1q
  obtain ⟨cq2, kq2, q2a, q2b, q2c⟩ := isOf hZ e1 P1
  obtain ⟨_, _, ⟨T2, L2, k2x, n2⟩, -, X2, ⟨Lc2, hQ2, l2, y2, z2⟩, st2⟩ := X1.virtualBack hx (y := mq20) (z := mq20) hown (mvT hZ (tw hw 66 rfl)) (mvT hZ (tw hw 67 rfl)) (notFace_of_selects (args := #[]) (mvT hZ (tw hw 69 rfl))) (mvT hZ (tw hw 69 rfl)) (mvT hZ (tw hw 68 rfl)) (by decide) (chA (W := 0) hZ hw P2 Z0 P3 Bs P4 P5 P7 (j := (Int32.ofNat ia)) rfl (by decide) (by decide)) q2a q2c (g := (mkF m 24 #[rv sxa, rv sba, iv (Int32.ofNat ia), z3] [(.int (Int32.ofNat ia)), (.ref sxa)])) rfl (by rw [hml]; rfl) (Steps.refl _) (argsL := [(.int (Int32.ofNat ia))]) (rest := []) (lenOf pd_29 rfl) rfl (Nat.le_of_eq rfl) (hb hby d8_24) (fun _ _ => ⟨rfl, e1, (by dsimp only [Pt.cells, Pt.slots]; omega), (by dsimp only [Pt.cells, Pt.slots]; omega)⟩)
  dsimp only [Pt.U, Pt.locs, Pt.cells, Pt.slots] at X2 l2 y2 z2 st2 hQ2
  subst l2 y2 z2
  obtain ⟨rfl, N2q, e2⟩ := hQ2
  have N2 := Fr.app N1 N2q
  have hwSA : ∀ d ∈ Bundle.stringAtoms, d.before a0 Z = true := fun d hd => hw d (own_strA d hd)
  obtain ⟨lsa, T3, h3, kq3, lsb, lkb, X3, e3, E3, hS3, hk3, hZ3, hown3, Ls1, Ls2, Ls3, Ls4, Ls5, Ls6, hR3, -, hsf3, st3⟩ := ldcCH (s := s) (vm0 := vm0) X2 hx hZ hown (tw hw 210 rfl) hwSA e2 hS0 hk0 hEL (by decide) H0 (vs := own_lo [92, 116]) (z := 2) ⟨by decide, by decide⟩ (by decide) (by decide) (g := (mkF m 83 #[rv sxa, rv sba, iv (Int32.ofNat ia), iv (cs.getD ia 0)] [(.ref sba)])) rfl (hb hby d8_83) (n := 8) (by decide) (by decide) (by show _ ≤ 30; omega) (by show _ ≤ 400; omega)
  have K3 : Keep h0 h3 [sba, ta] := (Keep.refl h0 [sba, ta]).ext E3
  have F1_4 : Exa Z h3 sba sq4 := P9.ext E3
  have Sa : Safe Z consts_1 T3.vm h3 sba := Safe.exa hZ3.alike (Bb.choose_spec.choose_spec.choose_spec.1.ext E3) (by decide) (by decide)
  have St' : Safe Z consts_1 T3.vm h3 ta := hR3.safe ltt St0
  have BE := Bb.ext E3
  have Z3 : n0 ≤ h3.size := Nat.le_trans Z0 E3.1
  have O3 : Old Z n0 h3 := P3.ext E3
  obtain ⟨cq5, kq5, q5a, q5b, q5c⟩ := isOf hZ3 e3 F1_4
  obtain ⟨_, _, ⟨T5, L5, k5x, n5⟩, -, X5, ⟨Lc5, hQ5, l5, y5, z5⟩, st5⟩ := X3.virtualBack hx (y := mq29) (z := mq29) hown3 (mvT hZ3 (tw hw 91 rfl)) (mvT hZ3 (tw hw 92 rfl)) (notFace_of_selects (args := #[]) (mvT hZ3 (tw hw 94 rfl))) (mvT hZ3 (tw hw 94 rfl)) (mvT hZ3 (tw hw 93 rfl)) (by decide) (backOf (W := 0) (sbs l Z a0 hw [] GC GF sba ta lsa lsb lkb bs 92 116 h3 n0 Z3 S O3 BE hbk Ls1 Ls3 Ls2 Ls4 (Ne.symm (hsf3 _ Sa).1) (Ne.symm (hsf3 _ Sa).2) (Ne.symm (hsf3 _ St').1) (Ne.symm (hsf3 _ St').2) (by decide)) hZ3 (tw hw 95 rfl) (tw hw 40 rfl) (by decide) (by decide)) q5a q5c (g := (mkF m 85 #[rv sxa, rv sba, iv (Int32.ofNat ia), iv (cs.getD ia 0)] [(.ref lsa), (.ref sba)])) rfl (by rw [hml]; rfl) (Steps.refl _) (argsL := [(.ref lsa)]) (rest := []) (lenOf pd_34 rfl) rfl (Nat.le_of_eq rfl) (hb hby d8_85) (fun _ _ => ⟨rfl, e3, (by dsimp only [Pt.cells, Pt.slots]; omega), (by dsimp only [Pt.cells, Pt.slots]; omega)⟩)
  dsimp only [Pt.U, Pt.locs, Pt.cells, Pt.slots] at X5 l5 y5 z5 st5 hQ5
  subst l5 y5 z5
  obtain ⟨tq, horq, rfl, N5q, K5c, Bq⟩ := hQ5
  have K5 : Keep h0 T5.heap [sba, ta] := K3.trans K5c (allS (Or.inl (List.mem_of_getElem? (i := 0) rfl)) (allS (Or.inl (List.mem_of_getElem? (i := 1) rfl)) all0))
  have N5 := Fr.app N2 N5q
  have Z5 : n0 ≤ T5.heap.size := Nat.le_trans Z3 K5c.1
  have hkk5_2 : kq3 ≤ T5.heap.size := Nat.le_trans hk3 K5c.1
  have hsafe : ∀ x ∈ [sba, ta], Safe Z consts_1 T3.vm h3 x := by
    intro x hx; rcases List.mem_cons.mp hx with rfl | hx
    · exact Sa
    · rw [List.mem_singleton.mp hx]; exact St'
  have Hh := hR3.1
  have hCr := hR3.trans (CHr.keep K5c hsafe Hh)
  have Sq : Safe Z consts_1 T3.vm T5.heap tq := Safe.keep K5c hsafe Hh (by rcases horq with rfl | q; exact St'; exact Safe.new q)
  have Bsq : Str Z T5.heap sxa sxt cs := (Bs.ext E3).keep K5c (ninS nx1 (ninS nx2 nin0)) (ninS nx3 (ninS nx4 nin0))
  have hor2 : tq = ta ∨ h0.size ≤ tq := horq.imp id (fun q => Nat.le_trans E3.1 q)
  refine FinW.pre (fun t k => ?_) (kk T5 _ T3.vm _ _ _ tq X5 (by omega) (by omega) N5 K5.1 hS3 hkk5_2 hZ3 hown3 hCr K5 Bsq Bq Sq hor2)
  show SF p e below T0 (mkF m 14 #[rv sxa, rv sba, iv (Int32.ofNat ia), z3] []) _
  refine XS.iloadN X0.here hx rfl (hb hby d8_14) rfl ?_
  refine XS.aloadN X0.here hx rfl (hb hby d8_15) rfl rfl ?_
  refine st1.trans ?_
  refine XS.icmpNo X1.here hx rfl (hb hby d8_19) rfl (tlt P6).2.1 ?_
  refine XS.aloadN X1.here hx rfl (hb hby d8_22) rfl rfl ?_
  refine XS.iloadN X1.here hx rfl (hb hby d8_23) rfl ?_
  refine st2.trans ?_
  refine XS.istoreN X2.here hx rfl (hb hby d8_27) rfl (l' := #[rv sxa, rv sba, iv (Int32.ofNat ia), iv (cs.getD ia 0)]) (by rcases P8 with h | ⟨_, h⟩ <;> subst h <;> rfl) ?_
  refine XS.iloadN X2.here hx rfl (hb hby d8_28) rfl ?_
  refine own_lswHit X2 hx (g := (mkF m 29 #[rv sxa, rv sba, iv (Int32.ofNat ia), iv (cs.getD ia 0)] [(.int (cs.getD ia 0))])) rfl rfl (hb hby d8_29) (by decide) (a := 9) (off := 53) (by rw [hkc]; rfl) (pc' := 82) (show (0 : Int) ≤ ((29 : Nat) : Int) + 53 by decide) (show (((29 : Nat) : Int) + 53).toNat = 82 by decide) ?_
  refine XS.aloadN X2.here hx rfl (hb hby d8_82) rfl rfl ?_
  refine st3 _ ?_
  refine st5.trans ?_
  refine XS.pop X5.here hx rfl (hb hby d8_88) rfl rfl ?_
  refine XS.goto X5.here hx rfl (pc0 := 89) (pc' := 118) rfl (hb hby d8_89) (by decide) (by decide) ?_
  refine XS.iinc X5.here hx rfl (hb hby d8_118) rfl (l' := #[rv sxa, rv sba, iv ((Int32.ofNat ia) + (1 : Int32)), iv (cs.getD ia 0)]) rfl ?_
  refine XS.goto X5.here hx rfl (pc0 := 121) (pc' := 14) rfl (hb hby d8_121) (by decide) (by decide) ?_
  exact k
theorem d8_92 : D8 92 (.aload_n 1) 1 := by decide +kernel
theorem d8_93 : D8 93 (.ldc 122) 2 := by decide +kernel
theorem d8_95 : D8 95 (.invokevirtual 104) 3 := by decide +kernel
theorem d8_98 : D8 98 (.pop) 1 := by decide +kernel
theorem d8_99 : D8 99 (.goto 19) 3 := by decide +kernel
theorem tn10 {p : Program} {l : Launch} {e : Env} {s : State} {m : MethodId} {below : List Frame} {meth : Method} {c : Code} {T0 : State} {locs : List Loc} {Z : State} {a0 : Array Value} {h0 : Heap} {n0 : Nat} {vm0 : Vm} {k0 ce sl : Nat} {F : Outcome → State → Prop} {GC : Int32} {GF : Value} {sxa sxt sba ta : Addr} {cs bs : List Int32} {ia : Nat} {z3 : Slot} (X0 : Stand p l e ({ frames := 10, cells := 30, slots := 400, locals := 200 } : Room) (s.setVm vm0) m #[(.ref sxa)] below meth c T0 locs ce sl) (hx : p.tables.exec = Jvm.exec) (hZ : Z.Warmed39 (s.setVm vm0).vm) (hw : HW Z a0) (hby : c.code = prog_41_method_4_code) (hml : c.maxLocals = 4) (hown : (s.setVm vm0).vm.findClass sq0 = some m.cls) (hre : meth.sig.returnType = some (.object sq3)) (hlk : meth.locks = false) (e0 : T0.heap = h0) (N0 : Fr n0 locs) (Z0 : n0 ≤ h0.size) (hS0 : s.Since vm0 k0) (hk0 : k0 ≤ h0.size) (hEL : EW Z a0 consts_1) (H0 : CHv Z consts_1 vm0 h0) (S : St Z GC GF) (O : Old Z n0 h0) (Bs : Str Z h0 sxa sxt cs) (hbc : ∀ c ∈ cs, ¬ c < 0 ∧ ¬ (65535 : Int32) < c) (hk7 : cs.length < 7) (hi : ia < cs.length) (hz3 : z3 = Slot.unset ∨ ∃ x : Int32, z3 = iv x) (Bb : Bld Z h0 n0 1 sba ta bs) (hbk : bs.length < 5) (hbn : ∀ c ∈ bs, ¬ c < 0) (St0 : Safe Z consts_1 vm0 h0 ta) (ltt : ta < h0.size) (nx1 : sxa ≠ sba) (nx2 : sxa ≠ ta) (nx3 : sxt ≠ sba) (nx4 : sxt ≠ ta) (hce : ce + 4 ≤ 30) (hsl : sl + 60 ≤ 400) (hkc : cs.getD ia 0 = 10)
    (kk : ∀ (T1 : State) (L1 : List Loc) (vm1 : Vm) (k1 ce1 sl1 : Nat) (t1 : Addr), Stand p l e ({ frames := 10, cells := 30, slots := 400, locals := 200 } : Room) (s.setVm vm1) m #[(.ref sxa)] below meth c T1 L1 ce1 sl1 → ce1 ≤ ce + 4 → sl1 ≤ sl + 60 → Fr n0 L1 → h0.size ≤ T1.heap.size → s.Since vm1 k1 → k1 ≤ T1.heap.size → Z.Warmed39 (s.setVm vm1).vm → (s.setVm vm1).vm.findClass sq0 = some m.cls → CHr Z consts_1 vm0 h0 vm1 T1.heap → Keep h0 T1.heap [sba, ta] → Str Z T1.heap sxa sxt cs → Bld Z T1.heap n0 1 sba t1 (bs ++ [92, 110]) → Safe Z consts_1 vm1 T1.heap t1 → (t1 = ta ∨ h0.size ≤ t1) → FinW p e below F (T1.setTop (mkF m 14 #[rv sxa, rv sba, iv ((Int32.ofNat ia) + (1 : Int32)), iv (cs.getD ia 0)] []))) :
    FinW p e below F (T0.setTop (mkF m 14 #[rv sxa, rv sba, iv (Int32.ofNat ia), z3] [])) := by
  have P1 : Exa Z h0 sxa sq3 := Bs.choose_spec.choose_spec.choose_spec.choose_spec.1
  have P2 : St Z GC GF := S
  have P3 : Old Z n0 h0 := O
  have P4 : ∀ c ∈ cs, ¬ c < 0 ∧ ¬ (65535 : Int32) < c := hbc
  have P5 : cs.length < 7 := hk7
  have P6 : (Int32.ofNat ia) < (Int32.ofNat cs.length) := (Jvm.Free.XT.lt32 (by omega) hi)
  have P7 : ia < cs.length := hi
  have P8 : z3 = Slot.unset ∨ ∃ x : Int32, z3 = iv x := hz3
  have P9 : Exa Z h0 sba sq4 := Bb.choose_spec.choose_spec.choose_spec.1
  obtain ⟨cq1, kq1, q1a, q1b, q1c⟩ := isOf hZ e0 P1
  obtain ⟨_, _, ⟨T1, L1, k1x, n1⟩, -, X1, ⟨Lc1, hQ1, l1, y1, z1⟩, st1⟩ := X0.virtualBack hx (y := mq26) (z := mq26) hown (mvT hZ (tw hw 41 rfl)) (mvT hZ (tw hw 42 rfl)) (notFace_of_selects (args := #[]) (mvT hZ (tw hw 44 rfl))) (mvT hZ (tw hw 44 rfl)) (mvT hZ (tw hw 43 rfl)) (by decide) (lenA (W := 1) hZ hw P2 P3 Bs P4 P5 (by decide) (by decide)) q1a q1c (g := (mkF m 16 #[rv sxa, rv sba, iv (Int32.ofNat ia), z3] [(.ref sxa), (.int (Int32.ofNat ia))])) rfl (by rw [hml]; rfl) (Steps.refl _) (argsL := []) (rest := [(.int (Int32.ofNat ia))]) (lenOf pd_19 rfl) rfl (Nat.le_of_eq rfl) (hb hby d8_16) (fun _ _ => ⟨rfl, e0, (by dsimp only [Pt.cells, Pt.slots]; omega), (by dsimp only [Pt.cells, Pt.slots]; omega)⟩)
  dsimp only [Pt.U, Pt.locs, Pt.cells, Pt.slots] at X1 l1 y1 z1 st1 hQ1
  subst l1 y1 z1
  obtain ⟨rfl, N1q, e1⟩ := hQ1
  have N1 := Fr.app N0 N1q
  obtain ⟨cq2, kq2, q2a, q2b, q2c⟩ := isOf hZ e1 P1
  obtain ⟨_, _, ⟨T2, L2, k2x, n2⟩, -, X2, ⟨Lc2, hQ2, l2, y2, z2⟩, st2⟩ := X1.virtualBack hx (y := mq20) (z := mq20) hown (mvT hZ (tw hw 66 rfl)) (mvT hZ (tw hw 67 rfl)) (notFace_of_selects (args := #[]) (mvT hZ (tw hw 69 rfl))) (mvT hZ (tw hw 69 rfl)) (mvT hZ (tw hw 68 rfl)) (by decide) (chA (W := 0) hZ hw P2 Z0 P3 Bs P4 P5 P7 (j := (Int32.ofNat ia)) rfl (by decide) (by decide)) q2a q2c (g := (mkF m 24 #[rv sxa, rv sba, iv (Int32.ofNat ia), z3] [(.int (Int32.ofNat ia)), (.ref sxa)])) rfl (by rw [hml]; rfl) (Steps.refl _) (argsL := [(.int (Int32.ofNat ia))]) (rest := []) (lenOf pd_29 rfl) rfl (Nat.le_of_eq rfl) (hb hby d8_24) (fun _ _ => ⟨rfl, e1, (by dsimp only [Pt.cells, Pt.slots]; omega), (by dsimp only [Pt.cells, Pt.slots]; omega)⟩)
  dsimp only [Pt.U, Pt.locs, Pt.cells, Pt.slots] at X2 l2 y2 z2 st2 hQ2
  subst l2 y2 z2
  obtain ⟨rfl, N2q, e2⟩ := hQ2
  have N2 := Fr.app N1 N2q
  have hwSA : ∀ d ∈ Bundle.stringAtoms, d.before a0 Z = true := fun d hd => hw d (own_strA d hd)
  obtain ⟨lsa, T3, h3, kq3, lsb, lkb, X3, e3, E3, hS3, hk3, hZ3, hown3, Ls1, Ls2, Ls3, Ls4, Ls5, Ls6, hR3, -, hsf3, st3⟩ := ldcCH (s := s) (vm0 := vm0) X2 hx hZ hown (tw hw 277 rfl) hwSA e2 hS0 hk0 hEL (by decide) H0 (vs := own_lo [92, 110]) (z := 2) ⟨by decide, by decide⟩ (by decide) (by decide) (g := (mkF m 93 #[rv sxa, rv sba, iv (Int32.ofNat ia), iv (cs.getD ia 0)] [(.ref sba)])) rfl (hb hby d8_93) (n := 8) (by decide) (by decide) (by show _ ≤ 30; omega) (by show _ ≤ 400; omega)
  have K3 : Keep h0 h3 [sba, ta] := (Keep.refl h0 [sba, ta]).ext E3
  have F1_4 : Exa Z h3 sba sq4 := P9.ext E3
  have Sa : Safe Z consts_1 T3.vm h3 sba := Safe.exa hZ3.alike (Bb.choose_spec.choose_spec.choose_spec.1.ext E3) (by decide) (by decide)
  have St' : Safe Z consts_1 T3.vm h3 ta := hR3.safe ltt St0
  have BE := Bb.ext E3
  have Z3 : n0 ≤ h3.size := Nat.le_trans Z0 E3.1
  have O3 : Old Z n0 h3 := P3.ext E3
  obtain ⟨cq5, kq5, q5a, q5b, q5c⟩ := isOf hZ3 e3 F1_4
  obtain ⟨_, _, ⟨T5, L5, k5x, n5⟩, -, X5, ⟨Lc5, hQ5, l5, y5, z5⟩, st5⟩ := X3.virtualBack hx (y := mq29) (z := mq29) hown3 (mvT hZ3 (tw hw 91 rfl)) (mvT hZ3 (tw hw 92 rfl)) (notFace_of_selects (args := #[]) (mvT hZ3 (tw hw 94 rfl))) (mvT hZ3 (tw hw 94 rfl)) (mvT hZ3 (tw hw 93 rfl)) (by decide) (backOf (W := 0) (sbs l Z a0 hw [] GC GF sba ta lsa lsb lkb bs 92 110 h3 n0 Z3 S O3 BE hbk Ls1 Ls3 Ls2 Ls4 (Ne.symm (hsf3 _ Sa).1) (Ne.symm (hsf3 _ Sa).2) (Ne.symm (hsf3 _ St').1) (Ne.symm (hsf3 _ St').2) (by decide)) hZ3 (tw hw 95 rfl) (tw hw 40 rfl) (by decide) (by decide)) q5a q5c (g := (mkF m 95 #[rv sxa, rv sba, iv (Int32.ofNat ia), iv (cs.getD ia 0)] [(.ref lsa), (.ref sba)])) rfl (by rw [hml]; rfl) (Steps.refl _) (argsL := [(.ref lsa)]) (rest := []) (lenOf pd_34 rfl) rfl (Nat.le_of_eq rfl) (hb hby d8_95) (fun _ _ => ⟨rfl, e3, (by dsimp only [Pt.cells, Pt.slots]; omega), (by dsimp only [Pt.cells, Pt.slots]; omega)⟩)
  dsimp only [Pt.U, Pt.locs, Pt.cells, Pt.slots] at X5 l5 y5 z5 st5 hQ5
  subst l5 y5 z5
  obtain ⟨tq, horq, rfl, N5q, K5c, Bq⟩ := hQ5
  have K5 : Keep h0 T5.heap [sba, ta] := K3.trans K5c (allS (Or.inl (List.mem_of_getElem? (i := 0) rfl)) (allS (Or.inl (List.mem_of_getElem? (i := 1) rfl)) all0))
  have N5 := Fr.app N2 N5q
  have Z5 : n0 ≤ T5.heap.size := Nat.le_trans Z3 K5c.1
  have hkk5_2 : kq3 ≤ T5.heap.size := Nat.le_trans hk3 K5c.1
  have hsafe : ∀ x ∈ [sba, ta], Safe Z consts_1 T3.vm h3 x := by
    intro x hx; rcases List.mem_cons.mp hx with rfl | hx
    · exact Sa
    · rw [List.mem_singleton.mp hx]; exact St'
  have Hh := hR3.1
  have hCr := hR3.trans (CHr.keep K5c hsafe Hh)
  have Sq : Safe Z consts_1 T3.vm T5.heap tq := Safe.keep K5c hsafe Hh (by rcases horq with rfl | q; exact St'; exact Safe.new q)
  have Bsq : Str Z T5.heap sxa sxt cs := (Bs.ext E3).keep K5c (ninS nx1 (ninS nx2 nin0)) (ninS nx3 (ninS nx4 nin0))
  have hor2 : tq = ta ∨ h0.size ≤ tq := horq.imp id (fun q => Nat.le_trans E3.1 q)
  refine FinW.pre (fun t k => ?_) (kk T5 _ T3.vm _ _ _ tq X5 (by omega) (by omega) N5 K5.1 hS3 hkk5_2 hZ3 hown3 hCr K5 Bsq Bq Sq hor2)
  show SF p e below T0 (mkF m 14 #[rv sxa, rv sba, iv (Int32.ofNat ia), z3] []) _
  refine XS.iloadN X0.here hx rfl (hb hby d8_14) rfl ?_
  refine XS.aloadN X0.here hx rfl (hb hby d8_15) rfl rfl ?_
  refine st1.trans ?_
  refine XS.icmpNo X1.here hx rfl (hb hby d8_19) rfl (tlt P6).2.1 ?_
  refine XS.aloadN X1.here hx rfl (hb hby d8_22) rfl rfl ?_
  refine XS.iloadN X1.here hx rfl (hb hby d8_23) rfl ?_
  refine st2.trans ?_
  refine XS.istoreN X2.here hx rfl (hb hby d8_27) rfl (l' := #[rv sxa, rv sba, iv (Int32.ofNat ia), iv (cs.getD ia 0)]) (by rcases P8 with h | ⟨_, h⟩ <;> subst h <;> rfl) ?_
  refine XS.iloadN X2.here hx rfl (hb hby d8_28) rfl ?_
  refine own_lswHit X2 hx (g := (mkF m 29 #[rv sxa, rv sba, iv (Int32.ofNat ia), iv (cs.getD ia 0)] [(.int (cs.getD ia 0))])) rfl rfl (hb hby d8_29) (by decide) (a := 10) (off := 63) (by rw [hkc]; rfl) (pc' := 92) (show (0 : Int) ≤ ((29 : Nat) : Int) + 63 by decide) (show (((29 : Nat) : Int) + 63).toNat = 92 by decide) ?_
  refine XS.aloadN X2.here hx rfl (hb hby d8_92) rfl rfl ?_
  refine st3 _ ?_
  refine st5.trans ?_
  refine XS.pop X5.here hx rfl (hb hby d8_98) rfl rfl ?_
  refine XS.goto X5.here hx rfl (pc0 := 99) (pc' := 118) rfl (hb hby d8_99) (by decide) (by decide) ?_
  refine XS.iinc X5.here hx rfl (hb hby d8_118) rfl (l' := #[rv sxa, rv sba, iv ((Int32.ofNat ia) + (1 : Int32)), iv (cs.getD ia 0)]) rfl ?_
  refine XS.goto X5.here hx rfl (pc0 := 121) (pc' := 14) rfl (hb hby d8_121) (by decide) (by decide) ?_
  exact k
theorem d8_102 : D8 102 (.aload_n 1) 1 := by decide +kernel
theorem d8_103 : D8 103 (.ldc 124) 2 := by decide +kernel
theorem d8_105 : D8 105 (.invokevirtual 104) 3 := by decide +kernel
theorem d8_108 : D8 108 (.pop) 1 := by decide +kernel
theorem d8_109 : D8 109 (.goto 9) 3 := by decide +kernel
theorem tn13 {p : Program} {l : Launch} {e : Env} {s : State} {m : MethodId} {below : List Frame} {meth : Method} {c : Code} {T0 : State} {locs : List Loc} {Z : State} {a0 : Array Value} {h0 : Heap} {n0 : Nat} {vm0 : Vm} {k0 ce sl : Nat} {F : Outcome → State → Prop} {GC : Int32} {GF : Value} {sxa sxt sba ta : Addr} {cs bs : List Int32} {ia : Nat} {z3 : Slot} (X0 : Stand p l e ({ frames := 10, cells := 30, slots := 400, locals := 200 } : Room) (s.setVm vm0) m #[(.ref sxa)] below meth c T0 locs ce sl) (hx : p.tables.exec = Jvm.exec) (hZ : Z.Warmed39 (s.setVm vm0).vm) (hw : HW Z a0) (hby : c.code = prog_41_method_4_code) (hml : c.maxLocals = 4) (hown : (s.setVm vm0).vm.findClass sq0 = some m.cls) (hre : meth.sig.returnType = some (.object sq3)) (hlk : meth.locks = false) (e0 : T0.heap = h0) (N0 : Fr n0 locs) (Z0 : n0 ≤ h0.size) (hS0 : s.Since vm0 k0) (hk0 : k0 ≤ h0.size) (hEL : EW Z a0 consts_1) (H0 : CHv Z consts_1 vm0 h0) (S : St Z GC GF) (O : Old Z n0 h0) (Bs : Str Z h0 sxa sxt cs) (hbc : ∀ c ∈ cs, ¬ c < 0 ∧ ¬ (65535 : Int32) < c) (hk7 : cs.length < 7) (hi : ia < cs.length) (hz3 : z3 = Slot.unset ∨ ∃ x : Int32, z3 = iv x) (Bb : Bld Z h0 n0 1 sba ta bs) (hbk : bs.length < 5) (hbn : ∀ c ∈ bs, ¬ c < 0) (St0 : Safe Z consts_1 vm0 h0 ta) (ltt : ta < h0.size) (nx1 : sxa ≠ sba) (nx2 : sxa ≠ ta) (nx3 : sxt ≠ sba) (nx4 : sxt ≠ ta) (hce : ce + 4 ≤ 30) (hsl : sl + 60 ≤ 400) (hkc : cs.getD ia 0 = 13)
    (kk : ∀ (T1 : State) (L1 : List Loc) (vm1 : Vm) (k1 ce1 sl1 : Nat) (t1 : Addr), Stand p l e ({ frames := 10, cells := 30, slots := 400, locals := 200 } : Room) (s.setVm vm1) m #[(.ref sxa)] below meth c T1 L1 ce1 sl1 → ce1 ≤ ce + 4 → sl1 ≤ sl + 60 → Fr n0 L1 → h0.size ≤ T1.heap.size → s.Since vm1 k1 → k1 ≤ T1.heap.size → Z.Warmed39 (s.setVm vm1).vm → (s.setVm vm1).vm.findClass sq0 = some m.cls → CHr Z consts_1 vm0 h0 vm1 T1.heap → Keep h0 T1.heap [sba, ta] → Str Z T1.heap sxa sxt cs → Bld Z T1.heap n0 1 sba t1 (bs ++ [92, 114]) → Safe Z consts_1 vm1 T1.heap t1 → (t1 = ta ∨ h0.size ≤ t1) → FinW p e below F (T1.setTop (mkF m 14 #[rv sxa, rv sba, iv ((Int32.ofNat ia) + (1 : Int32)), iv (cs.getD ia 0)] []))) :
    FinW p e below F (T0.setTop (mkF m 14 #[rv sxa, rv sba, iv (Int32.ofNat ia), z3] [])) := by
  have P1 : Exa Z h0 sxa sq3 := Bs.choose_spec.choose_spec.choose_spec.choose_spec.1
  have P2 : St Z GC GF := S
  have P3 : Old Z n0 h0 := O
  have P4 : ∀ c ∈ cs, ¬ c < 0 ∧ ¬ (65535 : Int32) < c := hbc
  have P5 : cs.length < 7 := hk7
  have P6 : (Int32.ofNat ia) < (Int32.ofNat cs.length) := (Jvm.Free.XT.lt32 (by omega) hi)
  have P7 : ia < cs.length := hi
  have P8 : z3 = Slot.unset ∨ ∃ x : Int32, z3 = iv x := hz3
  have P9 : Exa Z h0 sba sq4 := Bb.choose_spec.choose_spec.choose_spec.1
  obtain ⟨cq1, kq1, q1a, q1b, q1c⟩ := isOf hZ e0 P1
  obtain ⟨_, _, ⟨T1, L1, k1x, n1⟩, -, X1, ⟨Lc1, hQ1, l1, y1, z1⟩, st1⟩ := X0.virtualBack hx (y := mq26) (z := mq26) hown (mvT hZ (tw hw 41 rfl)) (mvT hZ (tw hw 42 rfl)) (notFace_of_selects (args := #[]) (mvT hZ (tw hw 44 rfl))) (mvT hZ (tw hw 44 rfl)) (mvT hZ (tw hw 43 rfl)) (by decide) (lenA (W := 1) hZ hw P2 P3 Bs P4 P5 (by decide) (by decide)) q1a q1c (g := (mkF m 16 #[rv sxa, rv sba, iv (Int32.ofNat ia), z3] [(.ref sxa), (.int (Int32.ofNat ia))])) rfl (by rw [hml]; rfl) (Steps.refl _) (argsL := []) (rest := [(.int (Int32.ofNat ia))]) (lenOf pd_19 rfl) rfl (Nat.le_of_eq rfl) (hb hby d8_16) (fun _ _ => ⟨rfl, e0, (by dsimp only [Pt.cells, Pt.slots]; omega), (by dsimp only [Pt.cells, Pt.slots]; omega)⟩)
  dsimp only [Pt.U, Pt.locs, Pt.cells, Pt.slots] at X1 l1 y1 z1 st1 hQ1
  subst l1 y1 z1
  obtain ⟨rfl, N1q, e1⟩ := hQ1
  have N1 := Fr.app N0 N1q
  obtain ⟨cq2, kq2, q2a, q2b, q2c⟩ := isOf hZ e1 P1
  obtain ⟨_, _, ⟨T2, L2, k2x, n2⟩, -, X2, ⟨Lc2, hQ2, l2, y2, z2⟩, st2⟩ := X1.virtualBack hx (y := mq20) (z := mq20) hown (mvT hZ (tw hw 66 rfl)) (mvT hZ (tw hw 67 rfl)) (notFace_of_selects (args := #[]) (mvT hZ (tw hw 69 rfl))) (mvT hZ (tw hw 69 rfl)) (mvT hZ (tw hw 68 rfl)) (by decide) (chA (W := 0) hZ hw P2 Z0 P3 Bs P4 P5 P7 (j := (Int32.ofNat ia)) rfl (by decide) (by decide)) q2a q2c (g := (mkF m 24 #[rv sxa, rv sba, iv (Int32.ofNat ia), z3] [(.int (Int32.ofNat ia)), (.ref sxa)])) rfl (by rw [hml]; rfl) (Steps.refl _) (argsL := [(.int (Int32.ofNat ia))]) (rest := []) (lenOf pd_29 rfl) rfl (Nat.le_of_eq rfl) (hb hby d8_24) (fun _ _ => ⟨rfl, e1, (by dsimp only [Pt.cells, Pt.slots]; omega), (by dsimp only [Pt.cells, Pt.slots]; omega)⟩)
  dsimp only [Pt.U, Pt.locs, Pt.cells, Pt.slots] at X2 l2 y2 z2 st2 hQ2
  subst l2 y2 z2
  obtain ⟨rfl, N2q, e2⟩ := hQ2
  have N2 := Fr.app N1 N2q
  have hwSA : ∀ d ∈ Bundle.stringAtoms, d.before a0 Z = true := fun d hd => hw d (own_strA d hd)
  obtain ⟨lsa, T3, h3, kq3, lsb, lkb, X3, e3, E3, hS3, hk3, hZ3, hown3, Ls1, Ls2, Ls3, Ls4, Ls5, Ls6, hR3, -, hsf3, st3⟩ := ldcCH (s := s) (vm0 := vm0) X2 hx hZ hown (tw hw 209 rfl) hwSA e2 hS0 hk0 hEL (by decide) H0 (vs := own_lo [92, 114]) (z := 2) ⟨by decide, by decide⟩ (by decide) (by decide) (g := (mkF m 103 #[rv sxa, rv sba, iv (Int32.ofNat ia), iv (cs.getD ia 0)] [(.ref sba)])) rfl (hb hby d8_103) (n := 8) (by decide) (by decide) (by show _ ≤ 30; omega) (by show _ ≤ 400; omega)
  have K3 : Keep h0 h3 [sba, ta] := (Keep.refl h0 [sba, ta]).ext E3
  have F1_4 : Exa Z h3 sba sq4 := P9.ext E3
  have Sa : Safe Z consts_1 T3.vm h3 sba := Safe.exa hZ3.alike (Bb.choose_spec.choose_spec.choose_spec.1.ext E3) (by decide) (by decide)
  have St' : Safe Z consts_1 T3.vm h3 ta := hR3.safe ltt St0
  have BE := Bb.ext E3
  have Z3 : n0 ≤ h3.size := Nat.le_trans Z0 E3.1
  have O3 : Old Z n0 h3 := P3.ext E3
  obtain ⟨cq5, kq5, q5a, q5b, q5c⟩ := isOf hZ3 e3 F1_4
  obtain ⟨_, _, ⟨T5, L5, k5x, n5⟩, -, X5, ⟨Lc5, hQ5, l5, y5, z5⟩, st5⟩ := X3.virtualBack hx (y := mq29) (z := mq29) hown3 (mvT hZ3 (tw hw 91 rfl)) (mvT hZ3 (tw hw 92 rfl)) (notFace_of_selects (args := #[]) (mvT hZ3 (tw hw 94 rfl))) (mvT hZ3 (tw hw 94 rfl)) (mvT hZ3 (tw hw 93 rfl)) (by decide) (backOf (W := 0) (sbs l Z a0 hw [] GC GF sba ta lsa lsb lkb bs 92 114 h3 n0 Z3 S O3 BE hbk Ls1 Ls3 Ls2 Ls4 (Ne.symm (hsf3 _ Sa).1) (Ne.symm (hsf3 _ Sa).2) (Ne.symm (hsf3 _ St').1) (Ne.symm (hsf3 _ St').2) (by decide)) hZ3 (tw hw 95 rfl) (tw hw 40 rfl) (by decide) (by decide)) q5a q5c (g := (mkF m 105 #[rv sxa, rv sba, iv (Int32.ofNat ia), iv (cs.getD ia 0)] [(.ref lsa), (.ref sba)])) rfl (by rw [hml]; rfl) (Steps.refl _) (argsL := [(.ref lsa)]) (rest := []) (lenOf pd_34 rfl) rfl (Nat.le_of_eq rfl) (hb hby d8_105) (fun _ _ => ⟨rfl, e3, (by dsimp only [Pt.cells, Pt.slots]; omega), (by dsimp only [Pt.cells, Pt.slots]; omega)⟩)
  dsimp only [Pt.U, Pt.locs, Pt.cells, Pt.slots] at X5 l5 y5 z5 st5 hQ5
  subst l5 y5 z5
  obtain ⟨tq, horq, rfl, N5q, K5c, Bq⟩ := hQ5
  have K5 : Keep h0 T5.heap [sba, ta] := K3.trans K5c (allS (Or.inl (List.mem_of_getElem? (i := 0) rfl)) (allS (Or.inl (List.mem_of_getElem? (i := 1) rfl)) all0))
  have N5 := Fr.app N2 N5q
  have Z5 : n0 ≤ T5.heap.size := Nat.le_trans Z3 K5c.1
  have hkk5_2 : kq3 ≤ T5.heap.size := Nat.le_trans hk3 K5c.1
  have hsafe : ∀ x ∈ [sba, ta], Safe Z consts_1 T3.vm h3 x := by
    intro x hx; rcases List.mem_cons.mp hx with rfl | hx
    · exact Sa
    · rw [List.mem_singleton.mp hx]; exact St'
  have Hh := hR3.1
  have hCr := hR3.trans (CHr.keep K5c hsafe Hh)
  have Sq : Safe Z consts_1 T3.vm T5.heap tq := Safe.keep K5c hsafe Hh (by rcases horq with rfl | q; exact St'; exact Safe.new q)
  have Bsq : Str Z T5.heap sxa sxt cs := (Bs.ext E3).keep K5c (ninS nx1 (ninS nx2 nin0)) (ninS nx3 (ninS nx4 nin0))
  have hor2 : tq = ta ∨ h0.size ≤ tq := horq.imp id (fun q => Nat.le_trans E3.1 q)
  refine FinW.pre (fun t k => ?_) (kk T5 _ T3.vm _ _ _ tq X5 (by omega) (by omega) N5 K5.1 hS3 hkk5_2 hZ3 hown3 hCr K5 Bsq Bq Sq hor2)
  show SF p e below T0 (mkF m 14 #[rv sxa, rv sba, iv (Int32.ofNat ia), z3] []) _
  refine XS.iloadN X0.here hx rfl (hb hby d8_14) rfl ?_
  refine XS.aloadN X0.here hx rfl (hb hby d8_15) rfl rfl ?_
  refine st1.trans ?_
  refine XS.icmpNo X1.here hx rfl (hb hby d8_19) rfl (tlt P6).2.1 ?_
  refine XS.aloadN X1.here hx rfl (hb hby d8_22) rfl rfl ?_
  refine XS.iloadN X1.here hx rfl (hb hby d8_23) rfl ?_
  refine st2.trans ?_
  refine XS.istoreN X2.here hx rfl (hb hby d8_27) rfl (l' := #[rv sxa, rv sba, iv (Int32.ofNat ia), iv (cs.getD ia 0)]) (by rcases P8 with h | ⟨_, h⟩ <;> subst h <;> rfl) ?_
  refine XS.iloadN X2.here hx rfl (hb hby d8_28) rfl ?_
  refine own_lswHit X2 hx (g := (mkF m 29 #[rv sxa, rv sba, iv (Int32.ofNat ia), iv (cs.getD ia 0)] [(.int (cs.getD ia 0))])) rfl rfl (hb hby d8_29) (by decide) (a := 13) (off := 73) (by rw [hkc]; rfl) (pc' := 102) (show (0 : Int) ≤ ((29 : Nat) : Int) + 73 by decide) (show (((29 : Nat) : Int) + 73).toNat = 102 by decide) ?_
  refine XS.aloadN X2.here hx rfl (hb hby d8_102) rfl rfl ?_
  refine st3 _ ?_
  refine st5.trans ?_
  refine XS.pop X5.here hx rfl (hb hby d8_108) rfl rfl ?_
  refine XS.goto X5.here hx rfl (pc0 := 109) (pc' := 118) rfl (hb hby d8_109) (by decide) (by decide) ?_
  refine XS.iinc X5.here hx rfl (hb hby d8_118) rfl (l' := #[rv sxa, rv sba, iv ((Int32.ofNat ia) + (1 : Int32)), iv (cs.getD ia 0)]) rfl ?_
  refine XS.goto X5.here hx rfl (pc0 := 121) (pc' := 14) rfl (hb hby d8_121) (by decide) (by decide) ?_
  exact k
theorem d8_112 : D8 112 (.aload_n 1) 1 := by decide +kernel
theorem d8_113 : D8 113 (.iload_n 3) 1 := by decide +kernel
theorem d8_114 : D8 114 (.invokevirtual 96) 3 := by decide +kernel
theorem pd_35 : parseMethodDescriptor "(C)Ljava/lang/StringBuilder;" = some ⟨[.char], some (.object sq4)⟩ := by decide +kernel
theorem d8_117 : D8 117 (.pop) 1 := by decide +kernel
theorem tnP {p : Program} {l : Launch} {e : Env} {s : State} {m : MethodId} {below : List Frame} {meth : Method} {c : Code} {T0 : State} {locs : List Loc} {Z : State} {a0 : Array Value} {h0 : Heap} {n0 : Nat} {vm0 : Vm} {k0 ce sl : Nat} {F : Outcome → State → Prop} {GC : Int32} {GF : Value} {sxa sxt sba ta : Addr} {cs bs : List Int32} {ia : Nat} {z3 : Slot} (X0 : Stand p l e ({ frames := 10, cells := 30, slots := 400, locals := 200 } : Room) (s.setVm vm0) m #[(.ref sxa)] below meth c T0 locs ce sl) (hx : p.tables.exec = Jvm.exec) (hZ : Z.Warmed39 (s.setVm vm0).vm) (hw : HW Z a0) (hby : c.code = prog_41_method_4_code) (hml : c.maxLocals = 4) (hown : (s.setVm vm0).vm.findClass sq0 = some m.cls) (hre : meth.sig.returnType = some (.object sq3)) (hlk : meth.locks = false) (e0 : T0.heap = h0) (N0 : Fr n0 locs) (Z0 : n0 ≤ h0.size) (hS0 : s.Since vm0 k0) (hk0 : k0 ≤ h0.size) (hEL : EW Z a0 consts_1) (H0 : CHv Z consts_1 vm0 h0) (S : St Z GC GF) (O : Old Z n0 h0) (Bs : Str Z h0 sxa sxt cs) (hbc : ∀ c ∈ cs, ¬ c < 0 ∧ ¬ (65535 : Int32) < c) (hk7 : cs.length < 7) (hi : ia < cs.length) (hz3 : z3 = Slot.unset ∨ ∃ x : Int32, z3 = iv x) (Bb : Bld Z h0 n0 1 sba ta bs) (hbk : bs.length < 5) (hbn : ∀ c ∈ bs, ¬ c < 0) (St0 : Safe Z consts_1 vm0 h0 ta) (ltt : ta < h0.size) (nx1 : sxa ≠ sba) (nx2 : sxa ≠ ta) (nx3 : sxt ≠ sba) (nx4 : sxt ≠ ta) (hce : ce + 4 ≤ 30) (hsl : sl + 60 ≤ 400) (hP1 : ¬ cs.getD ia 0 = 92) (hP2 : ¬ cs.getD ia 0 = 9) (hP3 : ¬ cs.getD ia 0 = 10) (hP4 : ¬ cs.getD ia 0 = 13)
    (kk : ∀ (T1 : State) (L1 : List Loc) (vm1 : Vm) (k1 ce1 sl1 : Nat) (t1 : Addr), Stand p l e ({ frames := 10, cells := 30, slots := 400, locals := 200 } : Room) (s.setVm vm1) m #[(.ref sxa)] below meth c T1 L1 ce1 sl1 → ce1 ≤ ce + 4 → sl1 ≤ sl + 60 → Fr n0 L1 → h0.size ≤ T1.heap.size → s.Since vm1 k1 → k1 ≤ T1.heap.size → Z.Warmed39 (s.setVm vm1).vm → (s.setVm vm1).vm.findClass sq0 = some m.cls → CHr Z consts_1 vm0 h0 vm1 T1.heap → Keep h0 T1.heap [sba, ta] → Str Z T1.heap sxa sxt cs → Bld Z T1.heap n0 1 sba t1 (bs ++ [cs.getD ia 0]) → Safe Z consts_1 vm1 T1.heap t1 → (t1 = ta ∨ h0.size ≤ t1) → FinW p e below F (T1.setTop (mkF m 14 #[rv sxa, rv sba, iv ((Int32.ofNat ia) + (1 : Int32)), iv (cs.getD ia 0)] []))) :
    FinW p e below F (T0.setTop (mkF m 14 #[rv sxa, rv sba, iv (Int32.ofNat ia), z3] [])) := by
  have P1 : Exa Z h0 sxa sq3 := Bs.choose_spec.choose_spec.choose_spec.choose_spec.1
  have P2 : St Z GC GF := S
  have P3 : Old Z n0 h0 := O
  have P4 : ∀ c ∈ cs, ¬ c < 0 ∧ ¬ (65535 : Int32) < c := hbc
  have P5 : cs.length < 7 := hk7
  have P6 : (Int32.ofNat ia) < (Int32.ofNat cs.length) := (Jvm.Free.XT.lt32 (by omega) hi)
  have P7 : ia < cs.length := hi
  have P8 : z3 = Slot.unset ∨ ∃ x : Int32, z3 = iv x := hz3
  have P9 : Exa Z h0 sba sq4 := Bb.choose_spec.choose_spec.choose_spec.1
  obtain ⟨cq1, kq1, q1a, q1b, q1c⟩ := isOf hZ e0 P1
  obtain ⟨_, _, ⟨T1, L1, k1x, n1⟩, -, X1, ⟨Lc1, hQ1, l1, y1, z1⟩, st1⟩ := X0.virtualBack hx (y := mq26) (z := mq26) hown (mvT hZ (tw hw 41 rfl)) (mvT hZ (tw hw 42 rfl)) (notFace_of_selects (args := #[]) (mvT hZ (tw hw 44 rfl))) (mvT hZ (tw hw 44 rfl)) (mvT hZ (tw hw 43 rfl)) (by decide) (lenA (W := 1) hZ hw P2 P3 Bs P4 P5 (by decide) (by decide)) q1a q1c (g := (mkF m 16 #[rv sxa, rv sba, iv (Int32.ofNat ia), z3] [(.ref sxa), (.int (Int32.ofNat ia))])) rfl (by rw [hml]; rfl) (Steps.refl _) (argsL := []) (rest := [(.int (Int32.ofNat ia))]) (lenOf pd_19 rfl) rfl (Nat.le_of_eq rfl) (hb hby d8_16) (fun _ _ => ⟨rfl, e0, (by dsimp only [Pt.cells, Pt.slots]; omega), (by dsimp only [Pt.cells, Pt.slots]; omega)⟩)
  dsimp only [Pt.U, Pt.locs, Pt.cells, Pt.slots] at X1 l1 y1 z1 st1 hQ1
  subst l1 y1 z1
  obtain ⟨rfl, N1q, e1⟩ := hQ1
  have N1 := Fr.app N0 N1q
  obtain ⟨cq2, kq2, q2a, q2b, q2c⟩ := isOf hZ e1 P1
  obtain ⟨_, _, ⟨T2, L2, k2x, n2⟩, -, X2, ⟨Lc2, hQ2, l2, y2, z2⟩, st2⟩ := X1.virtualBack hx (y := mq20) (z := mq20) hown (mvT hZ (tw hw 66 rfl)) (mvT hZ (tw hw 67 rfl)) (notFace_of_selects (args := #[]) (mvT hZ (tw hw 69 rfl))) (mvT hZ (tw hw 69 rfl)) (mvT hZ (tw hw 68 rfl)) (by decide) (chA (W := 0) hZ hw P2 Z0 P3 Bs P4 P5 P7 (j := (Int32.ofNat ia)) rfl (by decide) (by decide)) q2a q2c (g := (mkF m 24 #[rv sxa, rv sba, iv (Int32.ofNat ia), z3] [(.int (Int32.ofNat ia)), (.ref sxa)])) rfl (by rw [hml]; rfl) (Steps.refl _) (argsL := [(.int (Int32.ofNat ia))]) (rest := []) (lenOf pd_29 rfl) rfl (Nat.le_of_eq rfl) (hb hby d8_24) (fun _ _ => ⟨rfl, e1, (by dsimp only [Pt.cells, Pt.slots]; omega), (by dsimp only [Pt.cells, Pt.slots]; omega)⟩)
  dsimp only [Pt.U, Pt.locs, Pt.cells, Pt.slots] at X2 l2 y2 z2 st2 hQ2
  subst l2 y2 z2
  obtain ⟨rfl, N2q, e2⟩ := hQ2
  have N2 := Fr.app N1 N2q
  have Sa : Safe Z consts_1 vm0 h0 sba := Safe.exa hZ.alike Bb.choose_spec.choose_spec.choose_spec.1 (by decide) (by decide)
  have St' := St0
  obtain ⟨cq3, kq3, q3a, q3b, q3c⟩ := isOf hZ e2 P9
  obtain ⟨_, _, ⟨T3, L3, k3x, n3⟩, -, X3, ⟨Lc3, hQ3, l3, y3, z3⟩, st3⟩ := X2.virtualBack hx (y := mq28) (z := mq28) hown (mvT hZ (tw hw 196 rfl)) (mvT hZ (tw hw 197 rfl)) (notFace_of_selects (args := #[]) (mvT hZ (tw hw 199 rfl))) (mvT hZ (tw hw 199 rfl)) (mvT hZ (tw hw 198 rfl)) (by decide) (backOf (W := 0) (sbc l Z a0 hw [] GC GF sba ta bs (cs.getD ia 0) h0 n0 Z0 S P3 Bb hbn (Nat.lt_trans hbk (by decide))) hZ (tw hw 200 rfl) (tw hw 40 rfl) (by decide) (by decide)) q3a q3c (g := (mkF m 114 #[rv sxa, rv sba, iv (Int32.ofNat ia), iv (cs.getD ia 0)] [(.int (cs.getD ia 0)), (.ref sba)])) rfl (by rw [hml]; rfl) (Steps.refl _) (argsL := [(.int (cs.getD ia 0))]) (rest := []) (lenOf pd_35 rfl) rfl (Nat.le_of_eq rfl) (hb hby d8_114) (fun _ _ => ⟨rfl, e2, (by dsimp only [Pt.cells, Pt.slots]; omega), (by dsimp only [Pt.cells, Pt.slots]; omega)⟩)
  dsimp only [Pt.U, Pt.locs, Pt.cells, Pt.slots] at X3 l3 y3 z3 st3 hQ3
  subst l3 y3 z3
  obtain ⟨tq, horq, rfl, N3q, K3c, Bq⟩ := hQ3
  have K3 : Keep h0 T3.heap [sba, ta] := (Keep.refl h0 [sba, ta]).trans K3c (allS (Or.inl (List.mem_of_getElem? (i := 0) rfl)) (allS (Or.inl (List.mem_of_getElem? (i := 1) rfl)) all0))
  have N3 := Fr.app N2 N3q
  have Z3 : n0 ≤ T3.heap.size := Nat.le_trans Z0 K3c.1
  have hkk3_1 : k0 ≤ T3.heap.size := Nat.le_trans hk0 K3c.1
  have hsafe : ∀ x ∈ [sba, ta], Safe Z consts_1 vm0 h0 x := by
    intro x hx; rcases List.mem_cons.mp hx with rfl | hx
    · exact Sa
    · rw [List.mem_singleton.mp hx]; exact St'
  have Hh := (CHr.refl H0).1
  have hCr := (CHr.refl H0).trans (CHr.keep K3c hsafe Hh)
  have Sq : Safe Z consts_1 vm0 T3.heap tq := Safe.keep K3c hsafe Hh (by rcases horq with rfl | q; exact St'; exact Safe.new q)
  have Bsq : Str Z T3.heap sxa sxt cs := Bs.keep K3c (ninS nx1 (ninS nx2 nin0)) (ninS nx3 (ninS nx4 nin0))
  have hor2 : tq = ta ∨ h0.size ≤ tq := horq.imp id (fun q => Nat.le_trans (Nat.le_refl _) q)
  refine FinW.pre (fun t k => ?_) (kk T3 _ vm0 _ _ _ tq X3 (by omega) (by omega) N3 K3.1 hS0 hkk3_1 hZ hown hCr K3 Bsq Bq Sq hor2)
  show SF p e below T0 (mkF m 14 #[rv sxa, rv sba, iv (Int32.ofNat ia), z3] []) _
  refine XS.iloadN X0.here hx rfl (hb hby d8_14) rfl ?_
  refine XS.aloadN X0.here hx rfl (hb hby d8_15) rfl rfl ?_
  refine st1.trans ?_
  refine XS.icmpNo X1.here hx rfl (hb hby d8_19) rfl (tlt P6).2.1 ?_
  refine XS.aloadN X1.here hx rfl (hb hby d8_22) rfl rfl ?_
  refine XS.iloadN X1.here hx rfl (hb hby d8_23) rfl ?_
  refine st2.trans ?_
  refine XS.istoreN X2.here hx rfl (hb hby d8_27) rfl (l' := #[rv sxa, rv sba, iv (Int32.ofNat ia), iv (cs.getD ia 0)]) (by rcases P8 with h | ⟨_, h⟩ <;> subst h <;> rfl) ?_
  refine XS.iloadN X2.here hx rfl (hb hby d8_28) rfl ?_
  refine own_lswMiss X2 hx (g := (mkF m 29 #[rv sxa, rv sba, iv (Int32.ofNat ia), iv (cs.getD ia 0)] [(.int (cs.getD ia 0))])) rfl rfl (hb hby d8_29) (by decide) (own_miss hP1 hP2 hP3 hP4) (pc' := 112) (show (0 : Int) ≤ ((29 : Nat) : Int) + 83 by decide) (show (((29 : Nat) : Int) + 83).toNat = 112 by decide) ?_
  refine XS.aloadN X2.here hx rfl (hb hby d8_112) rfl rfl ?_
  refine XS.iloadN X2.here hx rfl (hb hby d8_113) rfl ?_
  refine st3.trans ?_
  refine XS.pop X3.here hx rfl (hb hby d8_117) rfl rfl ?_
  refine XS.iinc X3.here hx rfl (hb hby d8_118) rfl (l' := #[rv sxa, rv sba, iv ((Int32.ofNat ia) + (1 : Int32)), iv (cs.getD ia 0)]) rfl ?_
  refine XS.goto X3.here hx rfl (pc0 := 121) (pc' := 14) rfl (hb hby d8_121) (by decide) (by decide) ?_
  exact k
theorem own_enterP {l : Launch} {Z : State} {y : MethodName} {bytes : ByteArray} {maxL : Nat} {rt : Option FieldType} {ws : List Jvm.Cond} {rm : Room} {A : Array Value} {h0 : Heap} {P : State → Prop} {F : State → Outcome → State → Prop} (hp : plainFor y = true)
    (k : ∀ (p : Program) (e : Env) (s : State) (m : MethodId) (below : List Frame) (meth : Method) (c : Code) (s₁ : State), Stand p l e rm s m A below meth c s₁ [] 0 0 → p.tables.exec = Jvm.exec → c.code = bytes → c.maxLocals = maxL → s.vm.findClass y.cls = some m.cls → meth.name = y.name → Z.Warmed39 s.vm → s₁.heap = h0 → meth.sig.returnType = rt → meth.locks = false → s.heap = h0 → P s →
      FinW p e below (F s) (s₁.setTop (entryFrame m A maxL))) : MetFree l y (head1 (Jvm.Cond.code y bytes maxL rt :: ws) rm) (fun a U => a = A ∧ Z.Warmed39 U.vm ∧ U.heap = h0 ∧ P U) (fun _ _ _ _ _ => True) (fun _ U o U' => F U o U') := by
  refine MetFree.of_bodySF hp hisR ?_
  intro p e s m args below meth c s₁ Bd hml0 hP hK
  obtain ⟨rfl, hZ, hh, hPP⟩ := hP
  exact k p e s m below meth c s₁ (Stand.of_body Bd) Bd.exec Bd.bytes hml0 (findClass_of_methodNamed Bd.named) (name_of_methodNamed Bd.named Bd.method).1 hZ (by rw [← hh, Bd.state]; rfl) Bd.returns (by first | assumption | exact BodyLoose.notSynchronized Bd | exact Body.notSynchronized Bd) hh hPP
abbrev FH (Z : State) (rm : Room) (Q : Option Value → Heap → List Loc → Prop) (U : State) (o : Outcome) (t : State) : Prop := ∃ v L, o = .returned v ∧ Q v t.heap L ∧ CHr Z consts_1 U.vm U.heap t.vm t.heap ∧ ReturnedEndW U o t L rm.cells rm.slots
abbrev MFH (l : Launch) (Z : State) (y : MethodName) (cd : Jvm.Cond) (ws : List Jvm.Cond) (rm : Room) (A : Array Value) (h0 : Heap) (Q : Option Value → Heap → List Loc → Prop) : Prop := MetFree l y (head1 (cd :: ws) rm) (fun a U => a = A ∧ Z.Warmed39 U.vm ∧ U.heap = h0 ∧ CHv Z consts_1 U.vm h0) (fun _ _ _ _ _ => True) (fun _ U o U' => ∃ v L, o = .returned v ∧ Q v U'.heap L ∧ CHr Z consts_1 U.vm U.heap U'.vm U'.heap ∧ ReturnedEndW U o U' L rm.cells rm.slots)
abbrev MFS (l : Launch) (Z : State) (y : MethodName) (cd : Jvm.Cond) (ws : List Jvm.Cond) (rm : Room) (A : Array Value) (h0 : Heap) (x : Addr) (Q : Option Value → Heap → List Loc → Prop) : Prop := MetFree l y (head1 (cd :: ws) rm) (fun a U => a = A ∧ Z.Warmed39 U.vm ∧ U.heap = h0 ∧ CHv Z consts_1 U.vm h0 ∧ Safe Z consts_1 U.vm h0 x) (fun _ _ _ _ _ => True) (fun _ U o U' => ∃ v L, o = .returned v ∧ Q v U'.heap L ∧ CHr Z consts_1 U.vm U.heap U'.vm U'.heap ∧ ReturnedEndW U o U' L rm.cells rm.slots)
theorem own_backHS {p : Program} {l : Launch} {e : Env} {R : Room} {s : State} {args : Array Value} {below : List Frame} {Z : State} {a0 : Array Value} {h : Heap} {vm0 : Vm} {y : MethodName} {bytes : ByteArray} {maxL : Nat} {ret : Option FieldType} {rm : Room} {len W : Nat} {as' : Array Value} {x : Addr} {Q : Option Value → Heap → List Loc → Prop}
    (hM : MFS l Z y (Cond.code y bytes maxL ret) [] rm as' h x Q) (hZ : Z.Warmed39 vm0) (wc : (Cond.code y bytes maxL ret).before a0 Z = true) (wz : (Cond.initialized y.cls).before a0 Z = true) (hf : rm.frames + 1 ≤ R.frames) (hl : W + (maxL + 11) + rm.locals ≤ R.locals) (hEL : EW Z a0 consts_1) (H : CHv Z consts_1 vm0 h) (ltx : x < h.size) (Sx : Safe Z consts_1 vm0 h x) :
    BackS l R p e below (s.setVm vm0) args y len W (fun A a => a = as' ∧ A.U.heap = h ∧ A.cells + rm.cells ≤ R.cells ∧ A.slots + rm.slots ≤ R.slots)
      (fun A _ v B => ∃ L, Q v B.U.heap L ∧ B.locs = A.locs ++ L ∧ B.cells = A.cells + rm.cells ∧ B.slots = A.slots + rm.slots ∧ CHr Z consts_1 vm0 h B.U.vm B.U.heap) :=
  BackS.of_freeW (bytes := bytes) (maxL := maxL) (ret := ret) (E := fun _ first o t L k n => k = rm.cells ∧ n = rm.slots ∧ (∃ v, o = .returned v ∧ Q v t.heap L) ∧ CHr Z consts_1 first.vm first.heap t.vm t.heap) hM hf hl
    (fun m meth c A a Y hp => have hU : Z.Warmed39 A.U.vm := wtrans (s := s.setVm vm0) hZ Y.warmed
      ⟨by show (Cond.and _ .tt).before a A.U = true; rw [Cond.before_and, mv hU wc]; rfl, mv hU wc, mv hU wz, hp.2.2.1, hp.2.2.2⟩)
    (fun m meth c A a g mk Y hp => ⟨hp.1, wtrans (s := s.setVm vm0) hZ Y.warmed, hp.2.1, (CHv.at Y hZ hEL H).1, (CHv.at Y hZ hEL H).safe ltx Sx⟩) (fun _ _ _ _ _ _ _ _ _ => trivial)
    (fun _ _ _ _ ⟨v, L, h1, h2, h3, h4⟩ => ⟨L, _, _, h4, rfl, rfl, ⟨v, h1, h2⟩, h3⟩)
    (fun m meth c A a g mk v t L k n Y hp _ _ ⟨e1, e2, ⟨v', e3, e4⟩, e5⟩ => by
      cases e3; subst e1 e2
      refine ⟨L, e4, rfl, rfl, rfl, (CHv.at Y hZ hEL H).trans ?_⟩
      rw [← hp.2.1]; exact e5)
theorem own_encb {c : Int32} (h : ¬ c < 0 ∧ ¬ (65535 : Int32) < c) : ∀ d ∈ enc c, ¬ d < 0 ∧ ¬ (65535 : Int32) < d := by
  intro d hd
  unfold enc at hd
  split at hd
  · simp at hd; subst hd; decide
  · split at hd
    · simp at hd; rcases hd with rfl | rfl <;> decide
    · split at hd
      · simp at hd; rcases hd with rfl | rfl <;> decide
      · split at hd
        · simp at hd; rcases hd with rfl | rfl <;> decide
        · simp at hd; subst hd; exact h
theorem own_encs {cs : List Int32} (h : ∀ c ∈ cs, ¬ c < 0 ∧ ¬ (65535 : Int32) < c) : ∀ d ∈ cs.flatMap enc, ¬ d < 0 ∧ ¬ (65535 : Int32) < d := by
  intro d hd
  obtain ⟨c, hc, hd⟩ := List.mem_flatMap.mp hd
  exact own_encb (h c hc) d hd
theorem own_enclen (c : Int32) : (enc c).length ≤ 2 := by
  unfold enc
  repeat' split
  all_goals simp
theorem own_encsl (cs : List Int32) : (cs.flatMap enc).length ≤ 2 * cs.length := by
  induction cs with
  | nil => simp
  | cons c cs ih => rw [List.flatMap_cons, List.length_append, List.length_cons]; have := own_enclen c; omega
theorem own_takeenc (cs : List Int32) (i : Nat) (h : i < cs.length) : (cs.take i).flatMap enc ++ enc (cs.getD i 0) = (cs.take (i + 1)).flatMap enc := by
  rw [own_take cs i h, List.flatMap_append]; simp
theorem own_enc1 {c : Int32} (h1 : ¬ c = 92) (h2 : ¬ c = 9) (h3 : ¬ c = 10) (h4 : ¬ c = 13) : [c] = enc c := by
  unfold enc; rw [if_neg h1, if_neg h2, if_neg h3, if_neg h4]
theorem own_EW {Z : State} {a0 : Array Value} (hw : HW Z a0) : EW Z a0 consts_1 := (EW.cons (tw hw 88 rfl) (by decide) (EW.cons (tw hw 210 rfl) (by decide) (EW.cons (tw hw 277 rfl) (by decide) (EW.cons (tw hw 209 rfl) (by decide) (EW.cons (tw hw 211 rfl) (by decide) EW.nil)))))
theorem d8_124 : D8 124 (.aload_n 1) 1 := by decide +kernel
theorem d8_125 : D8 125 (.invokevirtual 107) 3 := by decide +kernel
theorem pd_36 : parseMethodDescriptor "()Ljava/lang/String;" = some ⟨[], some (.object sq3)⟩ := by decide +kernel
theorem d8_128 : D8 128 (.areturn) 1 := by decide +kernel
theorem tnX {p : Program} {l : Launch} {e : Env} {s : State} {m : MethodId} {below : List Frame} {meth : Method} {c : Code} {T0 : State} {locs : List Loc} {Z : State} {a0 : Array Value} {h0 : Heap} {n0 : Nat} {vm0 : Vm} {k0 ce sl bb : Nat} {GC : Int32} {GF : Value} {sxa sxt sba ta : Addr} {cs bs : List Int32} {z3 : Slot} (X0 : Stand p l e ({ frames := 10, cells := 30, slots := 400, locals := 200 } : Room) (s.setVm vm0) m #[(.ref sxa)] below meth c T0 locs ce sl) (hx : p.tables.exec = Jvm.exec) (hZ : Z.Warmed39 (s.setVm vm0).vm) (hw : HW Z a0) (hby : c.code = prog_41_method_4_code) (hml : c.maxLocals = 4) (hown : (s.setVm vm0).vm.findClass sq0 = some m.cls) (hre : meth.sig.returnType = some (.object sq3)) (hlk : meth.locks = false) (e0 : T0.heap = h0) (N0 : Fr n0 locs) (Z0 : n0 ≤ h0.size) (hS0 : s.Since vm0 k0) (hk0 : k0 ≤ h0.size) (hEL : EW Z a0 consts_1) (H0 : CHr Z consts_1 s.vm s.heap vm0 h0) (KK : Keep s.heap h0 []) (S : St Z GC GF) (O : Old Z n0 h0) (Bs : Str Z h0 sxa sxt cs) (hbc : ∀ c ∈ cs, ¬ c < 0 ∧ ¬ (65535 : Int32) < c) (hk7 : cs.length < 7) (Bb : Bld Z h0 n0 bb sba ta bs) (hbk : bs.length < 7) (hce : ce + 2 ≤ 30) (hsl : sl + 28 ≤ 400) :
    FinW p e below (FH Z ({ frames := 10, cells := 30, slots := 400, locals := 200 } : Room) (QT Z bs s.heap n0) s) (T0.setTop (mkF m 14 #[rv sxa, rv sba, iv (Int32.ofNat cs.length), z3] [])) := by
  have P1 : Exa Z h0 sxa sq3 := Bs.choose_spec.choose_spec.choose_spec.choose_spec.1
  have P2 : St Z GC GF := S
  have P3 : Old Z n0 h0 := O
  have P4 : ∀ c ∈ cs, ¬ c < 0 ∧ ¬ (65535 : Int32) < c := hbc
  have P5 : cs.length < 7 := hk7
  have P6 : Exa Z h0 sba sq4 := Bb.choose_spec.choose_spec.choose_spec.1
  obtain ⟨cq1, kq1, q1a, q1b, q1c⟩ := isOf hZ e0 P1
  obtain ⟨_, _, ⟨T1, L1, k1x, n1⟩, -, X1, ⟨Lc1, hQ1, l1, y1, z1⟩, st1⟩ := X0.virtualBack hx (y := mq26) (z := mq26) hown (mvT hZ (tw hw 41 rfl)) (mvT hZ (tw hw 42 rfl)) (notFace_of_selects (args := #[]) (mvT hZ (tw hw 44 rfl))) (mvT hZ (tw hw 44 rfl)) (mvT hZ (tw hw 43 rfl)) (by decide) (lenA (W := 1) hZ hw P2 P3 Bs P4 P5 (by decide) (by decide)) q1a q1c (g := (mkF m 16 #[rv sxa, rv sba, iv (Int32.ofNat cs.length), z3] [(.ref sxa), (.int (Int32.ofNat cs.length))])) rfl (by rw [hml]; rfl) (Steps.refl _) (argsL := []) (rest := [(.int (Int32.ofNat cs.length))]) (lenOf pd_19 rfl) rfl (Nat.le_of_eq rfl) (hb hby d8_16) (fun _ _ => ⟨rfl, e0, (by dsimp only [Pt.cells, Pt.slots]; omega), (by dsimp only [Pt.cells, Pt.slots]; omega)⟩)
  dsimp only [Pt.U, Pt.locs, Pt.cells, Pt.slots] at X1 l1 y1 z1 st1 hQ1
  subst l1 y1 z1
  obtain ⟨rfl, N1q, e1⟩ := hQ1
  have N1 := Fr.app N0 N1q
  obtain ⟨cq2, kq2, q2a, q2b, q2c⟩ := isOf hZ e1 P6
  obtain ⟨_, _, ⟨T2, L2, k2x, n2⟩, -, X2, ⟨Lc2, hQ2, l2, y2, z2⟩, st2⟩ := X1.virtualBack hx (y := mq31) (z := mq31) hown (mvT hZ (tw hw 152 rfl)) (mvT hZ (tw hw 153 rfl)) (notFace_of_selects (args := #[]) (mvT hZ (tw hw 155 rfl))) (mvT hZ (tw hw 155 rfl)) (mvT hZ (tw hw 154 rfl)) (by decide) (backOf (W := 0) (tos l Z a0 hw [] GC GF sba ta bs bb h0 n0 Z0 S P3 Bb hbk) hZ (tw hw 156 rfl) (tw hw 40 rfl) (by decide) (by decide)) q2a q2c (g := (mkF m 125 #[rv sxa, rv sba, iv (Int32.ofNat cs.length), z3] [(.ref sba)])) rfl (by rw [hml]; rfl) (Steps.refl _) (argsL := []) (rest := []) (lenOf pd_36 rfl) rfl (Nat.le_of_eq rfl) (hb hby d8_125) (fun _ _ => ⟨rfl, e1, (by dsimp only [Pt.cells, Pt.slots]; omega), (by dsimp only [Pt.cells, Pt.slots]; omega)⟩)
  dsimp only [Pt.U, Pt.locs, Pt.cells, Pt.slots] at X2 l2 y2 z2 st2 hQ2
  subst l2 y2 z2
  obtain ⟨rra, rrt, rfl, rz1, rz2, N2q, K2c, Br⟩ := hQ2
  have K2 : Keep h0 T2.heap [] := (Keep.refl h0 []).trans K2c all0
  have N2 := Fr.app N1 N2q
  have hkk2_1 : k0 ≤ T2.heap.size := Nat.le_trans hk0 K2c.1
  obtain ⟨fs, hr, hrun, hended, hRW⟩ := X2.leaveW hS0 hkk2_1 (v := some (.ref rra)) (fun h => by rw [hre] at h; cases h)
  have hC2 := CHr.keep K2c sf0 H0.1
  have hC3 := H0.trans (hC2.trans (CHv.at X2 hZ hEL hC2.1))
  unfold FinW
  refine ⟨_, _, ?_, hrun, hended, _, _, rfl, ⟨rra, rrt, rfl, Nat.le_trans KK.1 rz1, Nat.le_trans KK.1 rz2, N2, KK.trans K2c (fun x hx => by cases hx), Br⟩, hC3, hRW.1, hRW.2.1, hRW.2.2.1, hRW.2.2.2.mono (by show _ ≤ 30; omega) (by show _ ≤ 400; omega)⟩
  show SF p e below T0 (mkF m 14 #[rv sxa, rv sba, iv (Int32.ofNat cs.length), z3] []) _
  refine XS.iloadN X0.here hx rfl (hb hby d8_14) rfl ?_
  refine XS.aloadN X0.here hx rfl (hb hby d8_15) rfl rfl ?_
  refine st1.trans ?_
  refine XS.icmpYes X1.here hx rfl (pc0 := 19) (pc' := 124) rfl (hb hby d8_19) rfl (flt Int32.lt_irrefl).2.1 (by decide) (by decide) ?_
  refine XS.aloadN X1.here hx rfl (hb hby d8_124) rfl rfl ?_
  refine st2.trans ?_
  exact own_retR X2 hx hre rfl rfl (hb hby d8_128) hr
theorem escL {p : Program} {l : Launch} {e : Env} {s : State} {m : MethodId} {below : List Frame} {meth : Method} {c : Code} {Z : State} {a0 : Array Value} {n0 : Nat} {GC : Int32} {GF : Value} (hx : p.tables.exec = Jvm.exec) (hw : HW Z a0) (hby : c.code = prog_41_method_4_code) (hml : c.maxLocals = 4) (hre : meth.sig.returnType = some (.object sq3)) (hlk : meth.locks = false) (S : St Z GC GF) {sxa sxt sba : Addr} {cs : List Int32} (hbc : ∀ c ∈ cs, ¬ c < 0 ∧ ¬ (65535 : Int32) < c) (hk4 : cs.length < 4) (l1 : sxa < s.heap.size) (l2 : sxt < s.heap.size) (gb : s.heap.size ≤ sba) (hn0 : n0 ≤ s.heap.size) :
    ∀ (r i : Nat) (T0 : State) (locs : List Loc) (vm0 : Vm) (k0 ce sl bb : Nat) (ta : Addr) (z3 : Slot), i + r = cs.length → ce + 4 * r + 2 ≤ 30 → sl + 60 * r + 28 ≤ 400 → (0 < r → 1 ≤ bb) → (z3 = Slot.unset ∨ ∃ x : Int32, z3 = iv x) → Stand p l e ({ frames := 10, cells := 30, slots := 400, locals := 200 } : Room) (s.setVm vm0) m #[(.ref sxa)] below meth c T0 locs ce sl → Fr n0 locs → s.Since vm0 k0 → k0 ≤ T0.heap.size → Z.Warmed39 (s.setVm vm0).vm → (s.setVm vm0).vm.findClass sq0 = some m.cls → CHr Z consts_1 s.vm s.heap vm0 T0.heap → Keep s.heap T0.heap [] → Old Z n0 T0.heap → Str Z T0.heap sxa sxt cs → Bld Z T0.heap n0 bb sba ta ((cs.take i).flatMap enc) → Safe Z consts_1 vm0 T0.heap ta → s.heap.size ≤ ta →
      FinW p e below (FH Z ({ frames := 10, cells := 30, slots := 400, locals := 200 } : Room) (QT Z (cs.flatMap enc) s.heap n0) s) (T0.setTop (mkF m 14 #[rv sxa, rv sba, iv (Int32.ofNat i), z3] [])) := by
  intro r
  induction r with
  | zero =>
    intro i T0 locs vm0 k0 ce sl bb ta z3 hi hce hsl hbb hz3 X0 N0 hS0 hk0 hZ hown R0 KK O Bs Bb St0 gt
    have ei : i = cs.length := by omega
    subst ei
    rw [List.take_length] at Bb
    have := own_encsl cs
    exact tnX X0 hx hZ hw hby hml hown hre hlk rfl N0 (Nat.le_trans hn0 KK.1) hS0 hk0 (own_EW hw) R0 KK S O Bs hbc (by omega) Bb (by omega) (by omega) (by omega)
  | succ r ih =>
    intro i T0 locs vm0 k0 ce sl bb ta z3 hi0 hce hsl hbb hz3 X0 N0 hS0 hk0 hZ hown R0 KK O Bs Bb St0 gt
    have hi : i < cs.length := by omega
    have hbk : ((cs.take i).flatMap enc).length < 5 := by have := own_encsl (cs.take i); rw [List.length_take] at this; omega
    have hbn : ∀ c ∈ (cs.take i).flatMap enc, ¬ c < 0 := fun c hc => (own_encs (fun x hx => hbc x (List.mem_of_mem_take hx)) c hc).1
    have ltt : ta < T0.heap.size := by obtain ⟨_, _, _, -, -, -, -, -, q, -⟩ := Bb; exact q.lt
    have gg : n0 ≤ sba ∧ n0 ≤ ta := ⟨Nat.le_trans hn0 gb, Nat.le_trans hn0 gt⟩
    have nx1 : sxa ≠ sba := Nat.ne_of_lt (Nat.lt_of_lt_of_le l1 gb)
    have nx2 : sxa ≠ ta := Nat.ne_of_lt (Nat.lt_of_lt_of_le l1 gt)
    have nx3 : sxt ≠ sba := Nat.ne_of_lt (Nat.lt_of_lt_of_le l2 gb)
    have nx4 : sxt ≠ ta := Nat.ne_of_lt (Nat.lt_of_lt_of_le l2 gt)
    have fin : ∀ (nw : List Int32), (cs.take i).flatMap enc ++ nw = (cs.take (i + 1)).flatMap enc → ∀ (x3 : Int32) (T1 : State) (L1 : List Loc) (vm1 : Vm) (k1 ce1 sl1 : Nat) (t1 : Addr), Stand p l e ({ frames := 10, cells := 30, slots := 400, locals := 200 } : Room) (s.setVm vm1) m #[(.ref sxa)] below meth c T1 L1 ce1 sl1 → ce1 + 4 * r + 2 ≤ 30 → sl1 + 60 * r + 28 ≤ 400 → Fr n0 L1 → s.Since vm1 k1 → k1 ≤ T1.heap.size → Z.Warmed39 (s.setVm vm1).vm → (s.setVm vm1).vm.findClass sq0 = some m.cls → CHr Z consts_1 vm0 T0.heap vm1 T1.heap → Keep T0.heap T1.heap [sba, ta] → Str Z T1.heap sxa sxt cs → Bld Z T1.heap n0 1 sba t1 ((cs.take i).flatMap enc ++ nw) → Safe Z consts_1 vm1 T1.heap t1 → (t1 = ta ∨ T0.heap.size ≤ t1) → FinW p e below (FH Z ({ frames := 10, cells := 30, slots := 400, locals := 200 } : Room) (QT Z (cs.flatMap enc) s.heap n0) s) (T1.setTop (mkF m 14 #[rv sxa, rv sba, iv ((Int32.ofNat i) + (1 : Int32)), iv x3] [])) := by
      intro nw enw x3 T1 L1 vm1 k1 ce1 sl1 t1 X1 c1 c2 N1 hS1 hk1 hZ1 hown1 R1 K1 Bs1 Bb1 S1 ho
      rw [enw] at Bb1
      rw [Jvm.Free.XT.succ32]
      exact ih (i + 1) T1 L1 vm1 k1 ce1 sl1 1 t1 _ (by omega) c1 c2 (fun _ => Nat.le_refl _) (Or.inr ⟨_, rfl⟩) X1 N1 hS1 hk1 hZ1 hown1 (R0.trans R1) (KK.trans K1 (allS (Or.inr gb) (allS (Or.inr gt) all0))) (O.keep K1 (allS gg.1 (allS gg.2 all0))) Bs1 Bb1 S1 (by rcases ho with rfl | q; exact gt; exact Nat.le_trans KK.1 q)
    by_cases h1 : cs.getD i 0 = 92
    · exact tn92 X0 hx hZ hw hby hml hown hre hlk rfl N0 (Nat.le_trans hn0 KK.1) hS0 hk0 (own_EW hw) R0.1 S O Bs hbc (by omega) hi hz3 (Bb.weak (hbb (Nat.succ_pos _))) hbk hbn St0 ltt nx1 nx2 nx3 nx4 (by omega) (by omega) h1 (fun T1 L1 vm1 k1 ce1 sl1 t1 X1 c1 c2 N1 zz hS1 hk1 hZ1 hown1 R1 K1 Bs1 Bb1 S1 ho => fin _ (by rw [← own_takeenc cs i hi, h1]; rfl) _ T1 L1 vm1 k1 ce1 sl1 t1 X1 (by omega) (by omega) N1 hS1 hk1 hZ1 hown1 R1 K1 Bs1 Bb1 S1 ho)
    by_cases h2 : cs.getD i 0 = 9
    · exact tn9 X0 hx hZ hw hby hml hown hre hlk rfl N0 (Nat.le_trans hn0 KK.1) hS0 hk0 (own_EW hw) R0.1 S O Bs hbc (by omega) hi hz3 (Bb.weak (hbb (Nat.succ_pos _))) hbk hbn St0 ltt nx1 nx2 nx3 nx4 (by omega) (by omega) h2 (fun T1 L1 vm1 k1 ce1 sl1 t1 X1 c1 c2 N1 zz hS1 hk1 hZ1 hown1 R1 K1 Bs1 Bb1 S1 ho => fin _ (by rw [← own_takeenc cs i hi, h2]; rfl) _ T1 L1 vm1 k1 ce1 sl1 t1 X1 (by omega) (by omega) N1 hS1 hk1 hZ1 hown1 R1 K1 Bs1 Bb1 S1 ho)
    by_cases h3 : cs.getD i 0 = 10
    · exact tn10 X0 hx hZ hw hby hml hown hre hlk rfl N0 (Nat.le_trans hn0 KK.1) hS0 hk0 (own_EW hw) R0.1 S O Bs hbc (by omega) hi hz3 (Bb.weak (hbb (Nat.succ_pos _))) hbk hbn St0 ltt nx1 nx2 nx3 nx4 (by omega) (by omega) h3 (fun T1 L1 vm1 k1 ce1 sl1 t1 X1 c1 c2 N1 zz hS1 hk1 hZ1 hown1 R1 K1 Bs1 Bb1 S1 ho => fin _ (by rw [← own_takeenc cs i hi, h3]; rfl) _ T1 L1 vm1 k1 ce1 sl1 t1 X1 (by omega) (by omega) N1 hS1 hk1 hZ1 hown1 R1 K1 Bs1 Bb1 S1 ho)
    by_cases h4 : cs.getD i 0 = 13
    · exact tn13 X0 hx hZ hw hby hml hown hre hlk rfl N0 (Nat.le_trans hn0 KK.1) hS0 hk0 (own_EW hw) R0.1 S O Bs hbc (by omega) hi hz3 (Bb.weak (hbb (Nat.succ_pos _))) hbk hbn St0 ltt nx1 nx2 nx3 nx4 (by omega) (by omega) h4 (fun T1 L1 vm1 k1 ce1 sl1 t1 X1 c1 c2 N1 zz hS1 hk1 hZ1 hown1 R1 K1 Bs1 Bb1 S1 ho => fin _ (by rw [← own_takeenc cs i hi, h4]; rfl) _ T1 L1 vm1 k1 ce1 sl1 t1 X1 (by omega) (by omega) N1 hS1 hk1 hZ1 hown1 R1 K1 Bs1 Bb1 S1 ho)
    exact tnP X0 hx hZ hw hby hml hown hre hlk rfl N0 (Nat.le_trans hn0 KK.1) hS0 hk0 (own_EW hw) R0.1 S O Bs hbc (by omega) hi hz3 (Bb.weak (hbb (Nat.succ_pos _))) hbk hbn St0 ltt nx1 nx2 nx3 nx4 (by omega) (by omega) h1 h2 h3 h4 (fun T1 L1 vm1 k1 ce1 sl1 t1 X1 c1 c2 N1 zz hS1 hk1 hZ1 hown1 R1 K1 Bs1 Bb1 S1 ho => fin _ (by rw [← own_takeenc cs i hi, ← own_enc1 h1 h2 h3 h4]) _ T1 L1 vm1 k1 ce1 sl1 t1 X1 (by omega) (by omega) N1 hS1 hk1 hZ1 hown1 R1 K1 Bs1 Bb1 S1 ho)
theorem d8_0 : D8 0 (.new 77) 3 := by decide +kernel
theorem d8_3 : D8 3 (.dup) 1 := by decide +kernel
theorem d8_4 : D8 4 (.aload_n 0) 1 := by decide +kernel
theorem d8_5 : D8 5 (.invokevirtual 110) 3 := by decide +kernel
theorem d8_8 : D8 8 (.invokespecial 113) 3 := by decide +kernel
theorem d8_11 : D8 11 (.astore_n 1) 1 := by decide +kernel
theorem d8_12 : D8 12 (.iconst 0) 1 := by decide +kernel
theorem d8_13 : D8 13 (.istore_n 2) 1 := by decide +kernel
theorem pn_9 : plainName sq0 = true := by first | (simp [plainName, overriddenIn]; done) | decide +kernel
theorem esc (l : Launch) (Z : State) (a0 : Array Value) (hw : HW Z a0) (ws : List Jvm.Cond) (GC : Int32) (GF : Value) (sxa sxt : Addr) (cs : List Int32) (h0 : Heap) (n0 : Nat) (Z0 : n0 ≤ h0.size) (S : St Z GC GF) (O : Old Z n0 h0) (Bs : Str Z h0 sxa sxt cs) (hbc : ∀ c ∈ cs, ¬ c < 0 ∧ ¬ (65535 : Int32) < c) (hk4 : cs.length < 4) (lx : sxa < h0.size) (lt : sxt < h0.size) :
    MFH l Z mq0 (Jvm.Cond.code mq0 prog_41_method_4_code 4 (some (.object sq3))) ws ({ frames := 10, cells := 30, slots := 400, locals := 200 } : Room) #[(.ref sxa)] h0 (QT Z (cs.flatMap enc) h0 n0) := by
  refine own_enterP (P := fun U => CHv Z consts_1 U.vm h0) (F := fun U o U' => FH Z ({ frames := 10, cells := 30, slots := 400, locals := 200 } : Room) (QT Z (cs.flatMap enc) h0 n0) U o U') (plainFor_of_name pn_9) fun p e s m below meth c s₁ X0 hx hby hml hown hnm hZ e0 hre hlk hsh H0 => ?_
  have N0 := Fr.nil n0
  have hk7 : cs.length < 7 := by omega
  have CR0 := CHr.refl H0
  have pre0 : ∀ t, SF p e below s₁ (mkF m 0 #[rv sxa, .unset, .unset, .unset] []) t → SF p e below s₁ (entryFrame m #[(.ref sxa)] 4) t := fun t k => castTop (ef_53 m sxa) k
  have P1 : Exa Z h0 sxa sq3 := Bs.choose_spec.choose_spec.choose_spec.choose_spec.1
  have P2 : St Z GC GF := S
  have P3 : Old Z n0 h0 := O
  have P4 : ∀ c ∈ cs, ¬ c < 0 ∧ ¬ (65535 : Int32) < c := hbc
  have P5 : cs.length < 7 := hk7
  obtain ⟨T1, h1, X1, e1, E1, A1, D1, -, st1⟩ := newO X0 hx hZ hown (tw hw 38 rfl) (tw hw 39 rfl) (tw hw 40 rfl) e0 (g := (mkF m 0 #[rv sxa, .unset, .unset, .unset] [])) rfl (hb hby d8_0) (by decide) (by decide)
  obtain ⟨b60, g1⟩ : ∃ z, z = h0.size := ⟨_, rfl⟩
  rw [← g1] at A1 D1 st1
  have K1 : Keep h0 h1 [] := (Keep.refl h0 []).ext E1
  have Fn2 : Fld Z h1 b60 sq2 "value" "[B" .null := D1 (Or.inl (tw hw 63 rfl)) (ty := (.array .byte)) (by decide)
  have Fn3 : Fld Z h1 b60 sq2 "coder" "B" (.int 0) := D1 (Or.inl (tw hw 65 rfl)) (ty := .byte) (by decide)
  have Fn4 : Fld Z h1 b60 sq2 "count" "I" (.int 0) := D1 (Or.inl (tw hw 103 rfl)) (ty := .int) (by decide)
  have Fn5 : Fld Z h1 b60 sq2 "maybeLatin1" "Z" (.int 0) := D1 (Or.inl (tw hw 275 rfl)) (ty := .boolean) (by decide)
  have F1_6 : Exa Z h1 sxa sq3 := P1.ext E1
  have O1 : Old Z n0 h1 := P3.ext E1
  obtain ⟨cq7, kq7, q7a, q7b, q7c⟩ := isOf hZ e1 F1_6
  obtain ⟨_, _, ⟨T7, L7, k7x, n7⟩, -, X7, ⟨Lc7, hQ7, l7, y7, z7⟩, st7⟩ := X1.virtualBack hx (y := mq26) (z := mq26) hown (mvT hZ (tw hw 41 rfl)) (mvT hZ (tw hw 42 rfl)) (notFace_of_selects (args := #[]) (mvT hZ (tw hw 44 rfl))) (mvT hZ (tw hw 44 rfl)) (mvT hZ (tw hw 43 rfl)) (by decide) (lenA (W := 2) hZ hw P2 O1 (Bs.keep K1 nin0 nin0) P4 P5 (by decide) (by decide)) q7a q7c (g := (mkF m 5 #[rv sxa, .unset, .unset, .unset] [(.ref sxa), (.ref b60), (.ref b60)])) rfl (by rw [hml]; rfl) (Steps.refl _) (argsL := []) (rest := [(.ref b60), (.ref b60)]) (lenOf pd_19 rfl) rfl (Nat.le_of_eq rfl) (hb hby d8_5) (fun _ _ => ⟨rfl, e1, (by decide : 1 + 0 ≤ _), (by decide : 4 + 0 ≤ _)⟩)
  dsimp only [Pt.U, Pt.locs, Pt.cells, Pt.slots] at X7 l7 y7 z7 st7 hQ7
  subst l7 y7 z7
  obtain ⟨rfl, N7q, e7⟩ := hQ7
  have N7 := Fr.app N0 N7q
  have Z1 : n0 ≤ h1.size := Nat.le_trans Z0 E1.1
  have g_b60 : n0 ≤ b60 := Nat.le_trans Z0 (Nat.le_of_eq g1.symm)
  obtain ⟨_, _, ⟨T8, L8, k8x, n8⟩, -, X8, ⟨Lc8, hQ8, l8, y8, z8⟩, st8⟩ := X7.specialBack hx (y := mq27) rfl hown (mvT hZ (tw hw 51 rfl)) (mvT hZ (tw hw 52 rfl)) (mvT hZ (tw hw 53 rfl)) (by decide) (backOf (W := 1) (sbi l Z a0 hw [] GC GF b60 cs.length h1 n0 Z1 S O1 A1 Fn2 Fn3 Fn4 Fn5 g_b60 hk4) hZ (tw hw 53 rfl) (tw hw 40 rfl) (by decide) (by decide)) (g := (mkF m 8 #[rv sxa, .unset, .unset, .unset] [(.int (Int32.ofNat cs.length)), (.ref b60), (.ref b60)])) rfl (by rw [hml]; rfl) (Steps.refl _) (a := b60) (argsL := [(.int (Int32.ofNat cs.length))]) (rest := [(.ref b60)]) (lenOf pd_14 rfl) rfl (Nat.le_of_eq rfl) (hb hby d8_8) (fun _ _ => ⟨rfl, e7, (by decide : 1 + 1 ≤ _), (by decide : 4 + 3 ≤ _)⟩)
  dsimp only [Pt.U, Pt.locs, Pt.cells, Pt.slots] at X8 l8 y8 z8 st8 hQ8
  subst l8 y8 z8
  obtain ⟨b61, bz_b61, rfl, N8q, K8c, Bb8⟩ := hQ8
  have sz0_b60 : h0.size ≤ b60 := Nat.le_trans (Keep.refl h0 []).1 (Nat.le_of_eq g1.symm)
  have K8 : Keep h0 T8.heap [] := K1.trans K8c (allS (Or.inr sz0_b60) all0)
  have N8 := Fr.app N7 N8q
  have sf_b60_0 : Safe Z consts_1 s.vm h0 b60 := Safe.new (Nat.le_of_eq g1.symm)
  have sf_b60_1 : Safe Z consts_1 s.vm h1 b60 := Safe.ext E1 CR0.1 sf_b60_0
  have CS0 := CHr.ext E1 CR0.1
  have CR1 := CR0.trans CS0
  have sft : Safe Z consts_1 s.vm T8.heap b61 := Safe.keep K8c (sfS sf_b60_1 sf0) CR1.1 (Safe.new bz_b61)
  have CS1 := CHr.keep K8c (sfS sf_b60_1 sf0) CR1.1
  have CR2 := CR1.trans CS1
  have O8 : Old Z n0 T8.heap := O1.keep K8c (allS g_b60 all0)
  have Z8 : n0 ≤ T8.heap.size := Nat.le_trans Z1 K8c.1
  have sz0_b61 : h0.size ≤ b61 := Nat.le_trans K1.1 bz_b61
  have hS9 : s.Since s.vm T8.heap.size := State.WarmedH.since (State.WarmedH.refl s) _
  have w1 : sxa < s.heap.size := by rw [hsh]; exact lx
  have w2 : sxt < s.heap.size := by rw [hsh]; exact lt
  have w3 : s.heap.size ≤ b60 := by rw [hsh]; exact sz0_b60
  have w4 : n0 ≤ s.heap.size := by rw [hsh]; exact Z0
  have w5 : CHr Z consts_1 s.vm s.heap s.vm T8.heap := by rw [hsh]; exact CR2
  have w6 : Keep s.heap T8.heap [] := by rw [hsh]; exact K8
  have w7 : s.heap.size ≤ b61 := by rw [hsh]; exact sz0_b61
  rw [← hsh]
  refine FinW.pre (fun t k => pre0 _ ?_) (escL hx hw hby hml hre hlk S hbc hk4 w1 w2 w3 w4 cs.length 0 _ _ s.vm _ _ _ _ b61 _ (Nat.zero_add _) (by omega) (by omega) (fun q => q) (Or.inl rfl) X8 N8 hS9 (Nat.le_refl _) hZ hown w5 w6 O8 (Bs.keep K8 nin0 nin0) Bb8 sft w7)
  show SF p e below s₁ (mkF m 0 #[rv sxa, .unset, .unset, .unset] []) _
  refine st1 _ ?_
  refine XS.dup X1.here hx rfl (hb hby d8_3) rfl rfl ?_
  refine XS.aloadN X1.here hx rfl (hb hby d8_4) rfl rfl ?_
  refine st7.trans ?_
  refine st8.trans ?_
  refine XS.astoreN X8.here hx rfl (hb hby d8_11) rfl rfl (l' := #[rv sxa, rv b60, .unset, .unset]) rfl ?_
  refine XS.iconst X8.here hx rfl (hb hby d8_12) ?_
  refine XS.istoreN X8.here hx rfl (hb hby d8_13) rfl (l' := #[rv sxa, rv b60, iv 0, .unset]) rfl ?_
  exact k
def Q0 (Z : State) (sta : Addr) (h0 : Heap) (n0 : Nat) (v : Option Value) (h : Heap) (L : List Loc) : Prop := v = none ∧ Fr n0 L ∧ Keep h0 h [sta] ∧ ∃ t, Str Z h sta t []
theorem d3_8 : D3 8 (.aload_n 0) 1 := by decide +kernel
theorem d3_9 : D3 9 (.ldc 7) 2 := by decide +kernel
theorem d3_11 : D3 11 (.getfield 9) 3 := by decide +kernel
theorem d3_14 : D3 14 (.putfield 9) 3 := by decide +kernel
theorem d3_17 : D3 17 (.aload_n 0) 1 := by decide +kernel
theorem d3_18 : D3 18 (.ldc 7) 2 := by decide +kernel
theorem d3_20 : D3 20 (.getfield 15) 3 := by decide +kernel
theorem d3_23 : D3 23 (.putfield 15) 3 := by decide +kernel
theorem d3_26 : D3 26 (.return_) 1 := by decide +kernel
theorem nw40 (l : Launch) (Z : State) (a0 : Array Value) (hw : HW Z a0) (ws : List Jvm.Cond) (sta vaa : Addr) (h0 : Heap) (n0 : Nat) (Z0 : n0 ≤ h0.size) (O : Old Z n0 h0) (E : Exa Z h0 sta sq3) (V : Fld Z h0 sta sq3 "value" "[B" .null) (C : Fld Z h0 sta sq3 "coder" "B" (.int 0)) (gx : n0 ≤ sta) :
    MFS l Z mq19 (Jvm.Cond.code mq19 jdk_42_method_149_code 6 none) ws rq7 #[(.ref sta), (.ref vaa), (.int 0), (.int 0), .null] h0 sta (Q0 Z sta h0 n0) := by
  refine own_enterP (P := fun U => CHv Z consts_1 U.vm h0 ∧ Safe Z consts_1 U.vm h0 sta) (F := fun U o U' => FH Z rq7 (Q0 Z sta h0 n0) U o U') (plainFor_of_name pn_2) fun p e s m below meth c s₁ X0 hx hby hml hown hnm hZ e0 hre hlk hsh HH => ?_
  obtain ⟨H0, Sx0⟩ := HH
  have N0 := Fr.nil n0
  have CR0 := CHr.refl H0
  have hEL := own_EW hw
  have hS0 : s.Since s.vm h0.size := State.WarmedH.since (State.WarmedH.refl s) _
  have hk0 : h0.size ≤ h0.size := Nat.le_refl _
  have pre0 : ∀ t, SF p e below s₁ (mkF m 0 #[rv sta, rv vaa, iv 0, iv 0, .val .null, .unset] []) t → SF p e below s₁ (entryFrame m #[(.ref sta), (.ref vaa), (.int 0), (.int 0), .null] 6) t := fun t k => castTop (ef_51 m sta vaa (0 : Int32) (0 : Int32)) k
  have P1 : sta < h0.size := E.lt
  have P2 : Exa Z h0 sta sq3 := E
  have P3 : Fld Z h0 sta sq3 "value" "[B" .null := V
  have P4 : Fld Z h0 sta sq3 "coder" "B" (.int 0) := C
  have P5 : n0 ≤ sta := gx
  obtain ⟨T1, X1, e1, st1⟩ := initO X0 hx hZ hown (tw hw 15 rfl) (tw hw 16 rfl) (tw hw 17 rfl) e0 (g := (mkF m 1 #[rv sta, rv vaa, iv 0, iv 0, .val .null, .unset] [(.ref sta)])) rfl (by rw [hml]; rfl) rfl (hb hby d3_1) (by decide) (W := 0) (Nat.le_of_eq rfl) (by decide)
  have hwSA : ∀ d ∈ Bundle.stringAtoms, d.before a0 Z = true := fun d hd => hw d (own_strA d hd)
  obtain ⟨lsa2, T2, h2, kq2, lsb2, lkb2, X2, e2, E2, hS2, hk2, hZ2, hown2, La2, Lb2, Lc2, Ld2, -, -, hR2, -, hsf2, st2⟩ := ldcCH (s := s) (vm0 := s.vm) X1 hx hZ hown (tw hw 211 rfl) hwSA e1 hS0 hk0 hEL (by decide) CR0.1 (vs := []) (z := 0) ⟨by decide, by decide⟩ (by decide) (by decide) (g := (mkF m 9 #[rv sta, rv vaa, iv 0, iv 0, .val .null, .unset] [(.ref sta)])) rfl (hb hby d3_9) (n := 0) (by decide) (by decide) (by decide) (by decide)
  have K2 : Keep h0 h2 [sta] := (Keep.refl h0 [sta]).ext E2
  have sf_sta_1 : Safe Z consts_1 T2.vm h2 sta := hR2.safe P1 Sx0
  obtain ⟨T3, X3, e3, st3⟩ := getF X2 hx hZ2 hown2 (host := "") (Or.inl (tw hw 32 rfl)) Via.refl e2 Lc2 (g := (mkF m 11 #[rv sta, rv vaa, iv 0, iv 0, .val .null, .unset] [(.ref lsa2), (.ref sta)])) rfl rfl (hb hby d3_11)
  have F1_4 : Exa Z h2 sta sq3 := P2.ext E2
  have F1_5 : Fld Z h2 sta sq3 "value" "[B" .null := P3.ext E2
  have F1_6 : Fld Z h2 sta sq3 "coder" "B" (.int 0) := P4.ext E2
  obtain ⟨T7, h7, X7, e7, W7, st7⟩ := putF X3 hx hZ2 hown2 (host := "") (Or.inl (tw hw 32 rfl)) Via.refl e3 F1_5 F1_4 (Or.inr ⟨(tw hw 33 rfl), rfl, hnm⟩) (tw hw 5 rfl) (ty := (.array .byte)) (by decide) rfl rfl (g := (mkF m 14 #[rv sta, rv vaa, iv 0, iv 0, .val .null, .unset] [(.ref lsb2), (.ref sta)])) rfl rfl (hb hby d3_14)
  have K7 : Keep h0 h7 [sta] := K2.wr W7 (Or.inl (List.mem_of_getElem? (i := 0) rfl))
  have N7 := Fr.snoc X7 N0 P5
  have Fw7 : Fld Z h7 sta sq3 "value" "[B" (.ref lsb2) := F1_5.same W7
  have hkk7_2 : kq2 ≤ h7.size := Nat.le_trans hk2 (Keep.of_wr W7).1
  have CR1 := CR0.trans hR2
  have CS1 := CHr.wr W7 sf_sta_1 CR1.1
  have CR2 := CR1.trans CS1
  obtain ⟨lsa8, T8, h8, kq8, lsb8, lkb8, X8, e8, E8, hS8, hk8, hZ8, hown8, La8, Lb8, Lc8, Ld8, -, -, hR8, -, hsf8, st8⟩ := ldcCH (s := s) (vm0 := T2.vm) X7 hx hZ2 hown2 (tw hw 211 rfl) hwSA e7 hS2 hkk7_2 hEL (by decide) CR2.1 (vs := []) (z := 0) ⟨by decide, by decide⟩ (by decide) (by decide) (g := (mkF m 18 #[rv sta, rv vaa, iv 0, iv 0, .val .null, .unset] [(.ref sta)])) rfl (hb hby d3_18) (n := 0) (by decide) (by decide) (by decide) (by decide)
  have K8 : Keep h0 h8 [sta] := K7.ext E8
  have lt_sta_1 : sta < h2.size := Nat.lt_of_lt_of_le P1 E2.1
  have lt_sta_2 : sta < h7.size := Nat.lt_of_lt_of_le lt_sta_1 (Keep.of_wr W7).1
  have sf_sta_2 : Safe Z consts_1 T2.vm h7 sta := CS1.safe lt_sta_1 sf_sta_1
  have sf_sta_3 : Safe Z consts_1 T8.vm h8 sta := hR8.safe lt_sta_2 sf_sta_2
  obtain ⟨T9, X9, e9, st9⟩ := getF X8 hx hZ8 hown8 (host := "") (Or.inl (tw hw 30 rfl)) Via.refl e8 Lb8 (g := (mkF m 20 #[rv sta, rv vaa, iv 0, iv 0, .val .null, .unset] [(.ref lsa8), (.ref sta)])) rfl rfl (hb hby d3_20)
  have F2_10 : Exa Z h7 sta sq3 := F1_4.wr W7
  have F3_11 : Exa Z h8 sta sq3 := F2_10.ext E8
  have F2_12 : Fld Z h7 sta sq3 "coder" "B" (.int 0) := F1_6.other W7 (Or.inr (slot_ne (Or.inr (tw hw 31 rfl)) (Or.inr (tw hw 33 rfl)) (by decide) (t := .byte) (t' := (.array .byte)) (by decide) (by decide)))
  have F3_13 : Fld Z h8 sta sq3 "coder" "B" (.int 0) := F2_12.ext E8
  have F3_14 : Fld Z h8 sta sq3 "value" "[B" (.ref lsb2) := Fw7.ext E8
  obtain ⟨T15, h15, X15, e15, W15, st15⟩ := putFN X9 hx hZ8 hown8 (tw hw 30 rfl) Via.refl e9 F3_13 F3_11 (Or.inr ⟨(tw hw 31 rfl), rfl, hnm⟩) (tw hw 5 rfl) (ty := .byte) (v' := (.int 0)) (by decide) (by decide) (by decide) (g := (mkF m 23 #[rv sta, rv vaa, iv 0, iv 0, .val .null, .unset] [(.int 0), (.ref sta)])) rfl rfl (hb hby d3_23)
  have K15 : Keep h0 h15 [sta] := K8.wr W15 (Or.inl (List.mem_of_getElem? (i := 0) rfl))
  have N15 := Fr.snoc X15 N7 P5
  have Fw15 : Fld Z h15 sta sq3 "coder" "B" (.int 0) := F3_13.same W15
  have F4_16 : Fld Z h15 sta sq3 "value" "[B" (.ref lsb2) := F3_14.other W15 (Or.inr (slot_ne (Or.inr (tw hw 33 rfl)) (Or.inr (tw hw 31 rfl)) (by decide) (t := (.array .byte)) (t' := .byte) (by decide) (by decide)))
  have F4_17 : Exa Z h15 sta sq3 := F3_11.wr W15
  have F2_18 : Arv Z h7 lsb2 lkb2 .byte (0 : Int32) [] (.int (0 : Int32)) := Ld2.other W7 (Ne.symm (hsf2 _ sf_sta_1).2)
  have F3_19 : Arv Z h8 lsb2 lkb2 .byte (0 : Int32) [] (.int (0 : Int32)) := F2_18.ext E8
  have F4_20 : Arv Z h15 lsb2 lkb2 .byte (0 : Int32) [] (.int (0 : Int32)) := F3_19.other W15 (Ne.symm (hsf2 _ sf_sta_1).2)
  have CR3 := CR2.trans hR8
  have CS3 := CHr.wr W15 sf_sta_3 CR3.1
  have CR4 := CR3.trans CS3
  have hkk15_4 : kq8 ≤ h15.size := Nat.le_trans hk8 (Keep.of_wr W15).1
  obtain ⟨fs, hr, hrun, hended, hRW⟩ := X15.leaveW hS8 (by rw [e15]; exact hkk15_4) (v := none) (fun _ => rfl)
  have hC3 := CR4.trans (CHv.at X15 hZ8 hEL CR4.1)
  unfold FinW
  refine ⟨_, _, pre0 _ ?_, hrun, hended, _, _, rfl, ?_, ?_, hRW.1, hRW.2.1, hRW.2.2.1, hRW.2.2.2.mono (by decide) (by decide)⟩
  · show SF p e below s₁ (mkF m 0 #[rv sta, rv vaa, iv 0, iv 0, .val .null, .unset] []) _
    refine XS.aloadN X0.here hx rfl (hb hby d3_0) rfl rfl ?_
    refine st1 _ ?_
    refine XS.iloadN X1.here hx rfl (hb hby d3_4) rfl ?_
    refine XS.ifNo X1.here hx rfl (hb hby d3_5) rfl ((if0 _ _).trans (teq (by decide : (0 : Int32) = (0 : Int32))).2) ?_
    refine XS.aloadN X1.here hx rfl (hb hby d3_8) rfl rfl ?_
    refine st2 _ ?_
    refine st3 _ ?_
    refine st7 _ ?_
    refine XS.aloadN X7.here hx rfl (hb hby d3_17) rfl rfl ?_
    refine st8 _ ?_
    refine st9 _ ?_
    refine st15 _ ?_
    exact X15.returnOut hx hre (hb hby d3_26) hr
  · show Q0 Z sta h0 n0 _ T15.heap _
    rw [e15]
    exact ⟨rfl, N15, K15, _, ⟨lkb2, 0, 0, [], F4_17, F4_16, Fw15, F4_20, Or.inl ⟨rfl, rfl, rfl, fun c hc => by cases hc⟩⟩⟩
  · show CHr Z consts_1 s.vm s.heap T15.vm T15.heap
    rw [hsh, e15]; exact hC3
theorem nw10 (l : Launch) (Z : State) (a0 : Array Value) (hw : HW Z a0) (ws : List Jvm.Cond) (sta vaa : Addr) (kva : ClassId) (h0 : Heap) (n0 : Nat) (Z0 : n0 ≤ h0.size) (O : Old Z n0 h0) (E : Exa Z h0 sta sq3) (V : Fld Z h0 sta sq3 "value" "[B" .null) (C : Fld Z h0 sta sq3 "coder" "B" (.int 0)) (gx : n0 ≤ sta) (K : Arv Z h0 vaa kva .char (0 : Int32) [] (.int (0 : Int32))) :
    MFS l Z mq18 (Jvm.Cond.code mq18 jdk_42_method_3_code 2 none) ws rq10 #[(.ref sta), (.ref vaa)] h0 sta (Q0 Z sta h0 n0) := by
  refine own_enterP (P := fun U => CHv Z consts_1 U.vm h0 ∧ Safe Z consts_1 U.vm h0 sta) (F := fun U o U' => FH Z rq10 (Q0 Z sta h0 n0) U o U') (plainFor_of_name pn_2) fun p e s m below meth c s₁ X0 hx hby hml hown hnm hZ e0 hre hlk hsh HH => ?_
  obtain ⟨H0, Sx0⟩ := HH
  have N0 := Fr.nil n0
  have CR0 := CHr.refl H0
  have hEL := own_EW hw
  have hS0 : s.Since s.vm h0.size := State.WarmedH.since (State.WarmedH.refl s) _
  have hk0 : h0.size ≤ h0.size := Nat.le_refl _
  have pre0 : ∀ t, SF p e below s₁ (mkF m 0 #[rv sta, rv vaa] []) t → SF p e below s₁ (entryFrame m #[(.ref sta), (.ref vaa)] 2) t := fun t k => castTop (ef_52 m sta vaa) k
  have P1 : Arv Z h0 vaa kva .char (0 : Int32) [] (.int (0 : Int32)) := K
  have P2 : Exa Z h0 sta sq3 := E
  have P3 : Fld Z h0 sta sq3 "value" "[B" .null := V
  have P4 : Fld Z h0 sta sq3 "coder" "B" (.int 0) := C
  have P5 : n0 ≤ sta := gx
  have P6 : sta < h0.size := E.lt
  have P7 : Old Z n0 h0 := O
  obtain ⟨cl1, Ar1, q1, S1, N1z, H1, G1⟩ := id P1
  obtain ⟨_, _, ⟨T2, L2, k2x, n2⟩, -, X2, hS2, hgr2, ⟨Lc2, hQ2, l2, y2, z2, hCH2⟩, st2⟩ := X0.specialBackS hx (y := mq19) rfl hown (mvT hZ (tw hw 11 rfl)) (mvT hZ (tw hw 12 rfl)) (mvT hZ (tw hw 14 rfl)) (by decide) (own_backHS (s := s) (vm0 := s.vm) (W := 0) (nw40 l Z a0 hw [] sta vaa h0 n0 Z0 P7 P2 P3 P4 P5) hZ (tw hw 14 rfl) (tw hw 6 rfl) (by decide) (by decide) hEL CR0.1 P6 Sx0) (g := (mkF m 6 #[rv sta, rv vaa] [.null, (.int 0), (.int 0), (.ref vaa), (.ref sta)])) rfl (by rw [hml]; rfl) (Steps.refl _) (a := sta) (argsL := [(.ref vaa), (.int 0), (.int 0), .null]) (rest := []) (lenOf pd_33 rfl) rfl (Nat.le_of_eq rfl) (hb hby d2_6) (fun _ _ => ⟨rfl, e0, (by decide : 0 + 4 ≤ _), (by decide : 0 + 8 ≤ _)⟩)
  dsimp only [Pt.U, Pt.locs, Pt.cells, Pt.slots] at X2 l2 y2 z2 st2 hQ2 hS2 hgr2 hCH2
  subst l2 y2 z2
  obtain ⟨Xw2, hSw2, hZ2, hown2⟩ := rebS hS0 (n1 := s₁.heap.size) (by rw [e0]; exact hk0) X2 hS2 hgr2 hZ hown
  obtain ⟨rfl, N2q, K2c, stt, Bst⟩ := hQ2
  have K2 : Keep h0 T2.heap [sta] := (Keep.refl h0 [sta]).trans K2c (allS (Or.inl (List.mem_of_getElem? (i := 0) rfl)) all0)
  have N2 := Fr.app N0 N2q
  have hk2 : T2.heap.size ≤ T2.heap.size := Nat.le_refl _
  have CR1 := CR0.trans hCH2
  obtain ⟨fs, hr, hrun, hended, hRW⟩ := Xw2.leaveW hSw2 hk2 (v := none) (fun _ => rfl)
  have hC3 := CR1.trans (CHv.at Xw2 hZ2 hEL CR1.1)
  unfold FinW
  refine ⟨_, _, pre0 _ ?_, hrun, hended, _, _, rfl, ?_, ?_, hRW.1, hRW.2.1, hRW.2.2.1, hRW.2.2.2.mono (by decide) (by decide)⟩
  · show SF p e below s₁ (mkF m 0 #[rv sta, rv vaa] []) _
    refine XS.aloadN X0.here hx rfl (hb hby d2_0) rfl rfl ?_
    refine XS.aloadN X0.here hx rfl (hb hby d2_1) rfl rfl ?_
    refine XS.iconst X0.here hx rfl (hb hby d2_2) ?_
    refine XS.aloadN X0.here hx rfl (hb hby d2_3) rfl rfl ?_
    refine X0.arraylength hx (by rw [e0]; exact Ar1.1) (State.isArrayOf_alike hZ.alike Ar1.2.1) (g := (mkF m 4 #[rv sta, rv vaa] [(.ref vaa), (.int 0), (.ref vaa), (.ref sta)])) rfl rfl (hb hby d2_4) _ ?_
    rw [len_of S1 N1z]
    refine XS.aconstNull X0.here hx rfl (hb hby d2_5) ?_
    refine st2.trans ?_
    exact Xw2.returnOut hx hre (hb hby d2_9) hr
  · show Q0 Z sta h0 n0 _ T2.heap _
    exact ⟨rfl, N2, K2, _, Bst⟩
  · show CHr Z consts_1 s.vm s.heap T2.vm T2.heap
    rw [hsh]; exact hC3
theorem own_narc (v : Int32) : ¬ nar .char v < 0 ∧ ¬ (65535 : Int32) < nar .char v := by
  show ¬ (v.toUInt32.toUInt16.toUInt32.toInt32) < 0 ∧ ¬ (65535 : Int32) < (v.toUInt32.toUInt16.toUInt32.toInt32)
  generalize v.toUInt32.toUInt16 = w
  have hw := w.toNat_lt
  have e : w.toUInt32.toInt32 = Int32.ofNat w.toNat := by
    apply Int32.toBitVec_inj.mp
    apply BitVec.eq_of_toNat_eq
    show w.toUInt32.toBitVec.toNat = (BitVec.ofNat 32 w.toNat).toNat
    rw [BitVec.toNat_ofNat]
    show w.toUInt32.toNat = _
    rw [UInt16.toNat_toUInt32]; omega
  rw [e]
  exact ⟨Jvm.Free.XT.nlt32 (b := 0) (by omega) (by omega), Jvm.Free.XT.nlt32 (b := w.toNat) (a := 65535) (by omega) (by omega)⟩
theorem own_and3 (x : Int32) : x &&& 3 = 0 ∨ x &&& 3 = 1 ∨ x &&& 3 = 2 ∨ x &&& 3 = 3 := by
  have h : (x &&& 3).toBitVec.toNat < 4 := by
    simp only [Int32.toBitVec_and, BitVec.toNat_and]
    exact Nat.lt_succ_of_le Nat.and_le_right
  have e : (x &&& 3) = Int32.ofNat (x &&& 3).toBitVec.toNat := by
    apply Int32.toBitVec_inj.mp
    show _ = BitVec.ofNat 32 _
    rw [BitVec.ofNat_toNat]; simp
  rw [e]
  have t : ∀ k < 4, Int32.ofNat k = 0 ∨ Int32.ofNat k = 1 ∨ Int32.ofNat k = 2 ∨ Int32.ofNat k = 3 := by decide
  exact t _ h
def QPk (h0 : Heap) (n0 : Nat) (v : Option Value) (h : Heap) (L : List Loc) : Prop := ∃ c : Int32, v = some (.int c) ∧ (¬ c < 0 ∧ ¬ (65535 : Int32) < c) ∧ Fr n0 L ∧ h = h0
def QSt (ql : Nat) (h0 : Heap) (n0 : Nat) (v : Option Value) (h : Heap) (L : List Loc) : Prop := v = some (.int (Int32.ofNat ql)) ∧ Fr n0 L ∧ h = h0
abbrev D1 (n : Nat) (i : Instr) (k : Nat) : Prop := decode method_2_code n = .ok (i, k)
theorem d1_0 : D1 0 (.iload_n 0) 1 := by decide +kernel
theorem d1_1 : D1 1 (.bipush 7) 2 := by decide +kernel
theorem d1_3 : D1 3 (.iand) 1 := by decide +kernel
theorem d1_4 : D1 4 (.istore_n 1) 1 := by decide +kernel
theorem d1_5 : D1 5 (.iload_n 1) 1 := by decide +kernel
theorem d1_6 : D1 6 (.ifCond .ne 6) 3 := by decide +kernel
theorem d1_9 : D1 9 (.bipush 92) 2 := by decide +kernel
theorem d1_11 : D1 11 (.ireturn) 1 := by decide +kernel
theorem ef_54 (m : MethodId) (x0 : Int32) : entryFrame m #[(.int x0)] 2 = mkF m 0 #[.val (.int x0), .unset] [] := by first | (simp [entryFrame, mkF, argsToLocals, Value.category]; done) | rfl
def Q1_77 (Z : State) (u1 : Int32) (h0 : Heap) (n0 : Nat) (v : Option Value) (h : Heap) (L : List Loc) : Prop := v = some (.int 92) ∧ Fr n0 L ∧ h = h0
theorem rm1_77 (l : Launch) (Z : State) (a0 : Array Value) (hw : HW Z a0) (ws : List Jvm.Cond) (u1 : Int32) (h0 : Heap) (n0 : Nat) (Z0 : n0 ≤ h0.size) (P1 : (u1 &&& (7 : Int32)) = (0 : Int32)) :
    MF l Z mq1 (Jvm.Cond.code mq1 method_2_code 2 (some .char)) ws rq1 #[(.int u1)] h0 (Q1_77 Z u1 h0 n0) := by
  refine own_enter (plainFor_of_name pn_8) fun p e s m below meth c s₁ X0 hx hby hml hown hnm hZ e0 hre hlk => ?_
  have N0 := Fr.nil n0
  have pre0 : ∀ t, SF p e below s₁ (mkF m 0 #[iv u1, .unset] []) t → SF p e below s₁ (entryFrame m #[(.int u1)] 2) t := fun t k => castTop (ef_54 m u1) k
  obtain ⟨fs, hr, hrun, hended, hW, hsame⟩ := X0.leave (v := some (.int 92)) (fun h => by rw [hre] at h; cases h)
  refine ⟨_, _, pre0 _ ?_, hrun, hended, _, _, rfl, ?_, ⟨_, rfl⟩, hW, hsame.mono (by decide) (by decide)⟩
  · show SF p e below s₁ (mkF m 0 #[iv u1, .unset] []) _
    refine XS.iloadN X0.here hx rfl (hb hby d1_0) rfl ?_
    refine XS.bipush X0.here hx rfl (hb hby d1_1) ?_
    refine XS.iand X0.here hx rfl (hb hby d1_3) rfl ?_
    refine XS.istoreN X0.here hx rfl (hb hby d1_4) rfl (l' := #[iv u1, iv (u1 &&& (7 : Int32))]) rfl ?_
    refine XS.iloadN X0.here hx rfl (hb hby d1_5) rfl ?_
    refine XS.ifNo X0.here hx rfl (hb hby d1_6) rfl ((if0 _ _).trans (teq P1).2) ?_
    refine XS.bipush X0.here hx rfl (hb hby d1_9) ?_
    exact retN X0 hx (t := .char) hre (by simp) (hb hby d1_11) hr
  · show Q1_77 Z u1 h0 n0 _ s₁.heap _
    rw [e0]
    exact ⟨rfl, N0, rfl⟩
theorem d1_12 : D1 12 (.iload_n 1) 1 := by decide +kernel
theorem d1_13 : D1 13 (.iconst 1) 1 := by decide +kernel
theorem d1_14 : D1 14 (.if_icmp .ne 6) 3 := by decide +kernel
theorem d1_17 : D1 17 (.bipush 9) 2 := by decide +kernel
theorem d1_19 : D1 19 (.ireturn) 1 := by decide +kernel
def Q1_78 (Z : State) (u1 : Int32) (h0 : Heap) (n0 : Nat) (v : Option Value) (h : Heap) (L : List Loc) : Prop := v = some (.int 9) ∧ Fr n0 L ∧ h = h0
theorem rm1_78 (l : Launch) (Z : State) (a0 : Array Value) (hw : HW Z a0) (ws : List Jvm.Cond) (u1 : Int32) (h0 : Heap) (n0 : Nat) (Z0 : n0 ≤ h0.size) (P1 : ¬ ((u1 &&& (7 : Int32)) = (0 : Int32))) (P2 : (u1 &&& (7 : Int32)) = (1 : Int32)) :
    MF l Z mq1 (Jvm.Cond.code mq1 method_2_code 2 (some .char)) ws rq1 #[(.int u1)] h0 (Q1_78 Z u1 h0 n0) := by
  refine own_enter (plainFor_of_name pn_8) fun p e s m below meth c s₁ X0 hx hby hml hown hnm hZ e0 hre hlk => ?_
  have N0 := Fr.nil n0
  have pre0 : ∀ t, SF p e below s₁ (mkF m 0 #[iv u1, .unset] []) t → SF p e below s₁ (entryFrame m #[(.int u1)] 2) t := fun t k => castTop (ef_54 m u1) k
  obtain ⟨fs, hr, hrun, hended, hW, hsame⟩ := X0.leave (v := some (.int 9)) (fun h => by rw [hre] at h; cases h)
  refine ⟨_, _, pre0 _ ?_, hrun, hended, _, _, rfl, ?_, ⟨_, rfl⟩, hW, hsame.mono (by decide) (by decide)⟩
  · show SF p e below s₁ (mkF m 0 #[iv u1, .unset] []) _
    refine XS.iloadN X0.here hx rfl (hb hby d1_0) rfl ?_
    refine XS.bipush X0.here hx rfl (hb hby d1_1) ?_
    refine XS.iand X0.here hx rfl (hb hby d1_3) rfl ?_
    refine XS.istoreN X0.here hx rfl (hb hby d1_4) rfl (l' := #[iv u1, iv (u1 &&& (7 : Int32))]) rfl ?_
    refine XS.iloadN X0.here hx rfl (hb hby d1_5) rfl ?_
    refine XS.ifYes X0.here hx rfl (pc0 := 6) (pc' := 12) rfl (hb hby d1_6) rfl ((if0 _ _).trans (feq P1).2) (by decide) (by decide) ?_
    refine XS.iloadN X0.here hx rfl (hb hby d1_12) rfl ?_
    refine XS.iconst X0.here hx rfl (hb hby d1_13) ?_
    refine XS.icmpNo X0.here hx rfl (hb hby d1_14) rfl (teq P2).2 ?_
    refine XS.bipush X0.here hx rfl (hb hby d1_17) ?_
    exact retN X0 hx (t := .char) hre (by simp) (hb hby d1_19) hr
  · show Q1_78 Z u1 h0 n0 _ s₁.heap _
    rw [e0]
    exact ⟨rfl, N0, rfl⟩
theorem d1_20 : D1 20 (.iload_n 1) 1 := by decide +kernel
theorem d1_21 : D1 21 (.iconst 2) 1 := by decide +kernel
theorem d1_22 : D1 22 (.if_icmp .ne 6) 3 := by decide +kernel
theorem d1_25 : D1 25 (.bipush 10) 2 := by decide +kernel
theorem d1_27 : D1 27 (.ireturn) 1 := by decide +kernel
def Q1_79 (Z : State) (u1 : Int32) (h0 : Heap) (n0 : Nat) (v : Option Value) (h : Heap) (L : List Loc) : Prop := v = some (.int 10) ∧ Fr n0 L ∧ h = h0
theorem rm1_79 (l : Launch) (Z : State) (a0 : Array Value) (hw : HW Z a0) (ws : List Jvm.Cond) (u1 : Int32) (h0 : Heap) (n0 : Nat) (Z0 : n0 ≤ h0.size) (P1 : ¬ ((u1 &&& (7 : Int32)) = (0 : Int32))) (P2 : ¬ ((u1 &&& (7 : Int32)) = (1 : Int32))) (P3 : (u1 &&& (7 : Int32)) = (2 : Int32)) :
    MF l Z mq1 (Jvm.Cond.code mq1 method_2_code 2 (some .char)) ws rq1 #[(.int u1)] h0 (Q1_79 Z u1 h0 n0) := by
  refine own_enter (plainFor_of_name pn_8) fun p e s m below meth c s₁ X0 hx hby hml hown hnm hZ e0 hre hlk => ?_
  have N0 := Fr.nil n0
  have pre0 : ∀ t, SF p e below s₁ (mkF m 0 #[iv u1, .unset] []) t → SF p e below s₁ (entryFrame m #[(.int u1)] 2) t := fun t k => castTop (ef_54 m u1) k
  obtain ⟨fs, hr, hrun, hended, hW, hsame⟩ := X0.leave (v := some (.int 10)) (fun h => by rw [hre] at h; cases h)
  refine ⟨_, _, pre0 _ ?_, hrun, hended, _, _, rfl, ?_, ⟨_, rfl⟩, hW, hsame.mono (by decide) (by decide)⟩
  · show SF p e below s₁ (mkF m 0 #[iv u1, .unset] []) _
    refine XS.iloadN X0.here hx rfl (hb hby d1_0) rfl ?_
    refine XS.bipush X0.here hx rfl (hb hby d1_1) ?_
    refine XS.iand X0.here hx rfl (hb hby d1_3) rfl ?_
    refine XS.istoreN X0.here hx rfl (hb hby d1_4) rfl (l' := #[iv u1, iv (u1 &&& (7 : Int32))]) rfl ?_
    refine XS.iloadN X0.here hx rfl (hb hby d1_5) rfl ?_
    refine XS.ifYes X0.here hx rfl (pc0 := 6) (pc' := 12) rfl (hb hby d1_6) rfl ((if0 _ _).trans (feq P1).2) (by decide) (by decide) ?_
    refine XS.iloadN X0.here hx rfl (hb hby d1_12) rfl ?_
    refine XS.iconst X0.here hx rfl (hb hby d1_13) ?_
    refine XS.icmpYes X0.here hx rfl (pc0 := 14) (pc' := 20) rfl (hb hby d1_14) rfl (feq P2).2 (by decide) (by decide) ?_
    refine XS.iloadN X0.here hx rfl (hb hby d1_20) rfl ?_
    refine XS.iconst X0.here hx rfl (hb hby d1_21) ?_
    refine XS.icmpNo X0.here hx rfl (hb hby d1_22) rfl (teq P3).2 ?_
    refine XS.bipush X0.here hx rfl (hb hby d1_25) ?_
    exact retN X0 hx (t := .char) hre (by simp) (hb hby d1_27) hr
  · show Q1_79 Z u1 h0 n0 _ s₁.heap _
    rw [e0]
    exact ⟨rfl, N0, rfl⟩
theorem d1_28 : D1 28 (.iload_n 1) 1 := by decide +kernel
theorem d1_29 : D1 29 (.iconst 3) 1 := by decide +kernel
theorem d1_30 : D1 30 (.if_icmp .ne 6) 3 := by decide +kernel
theorem d1_33 : D1 33 (.bipush 13) 2 := by decide +kernel
theorem d1_35 : D1 35 (.ireturn) 1 := by decide +kernel
def Q1_80 (Z : State) (u1 : Int32) (h0 : Heap) (n0 : Nat) (v : Option Value) (h : Heap) (L : List Loc) : Prop := v = some (.int 13) ∧ Fr n0 L ∧ h = h0
theorem rm1_80 (l : Launch) (Z : State) (a0 : Array Value) (hw : HW Z a0) (ws : List Jvm.Cond) (u1 : Int32) (h0 : Heap) (n0 : Nat) (Z0 : n0 ≤ h0.size) (P1 : ¬ ((u1 &&& (7 : Int32)) = (0 : Int32))) (P2 : ¬ ((u1 &&& (7 : Int32)) = (1 : Int32))) (P3 : ¬ ((u1 &&& (7 : Int32)) = (2 : Int32))) (P4 : (u1 &&& (7 : Int32)) = (3 : Int32)) :
    MF l Z mq1 (Jvm.Cond.code mq1 method_2_code 2 (some .char)) ws rq1 #[(.int u1)] h0 (Q1_80 Z u1 h0 n0) := by
  refine own_enter (plainFor_of_name pn_8) fun p e s m below meth c s₁ X0 hx hby hml hown hnm hZ e0 hre hlk => ?_
  have N0 := Fr.nil n0
  have pre0 : ∀ t, SF p e below s₁ (mkF m 0 #[iv u1, .unset] []) t → SF p e below s₁ (entryFrame m #[(.int u1)] 2) t := fun t k => castTop (ef_54 m u1) k
  obtain ⟨fs, hr, hrun, hended, hW, hsame⟩ := X0.leave (v := some (.int 13)) (fun h => by rw [hre] at h; cases h)
  refine ⟨_, _, pre0 _ ?_, hrun, hended, _, _, rfl, ?_, ⟨_, rfl⟩, hW, hsame.mono (by decide) (by decide)⟩
  · show SF p e below s₁ (mkF m 0 #[iv u1, .unset] []) _
    refine XS.iloadN X0.here hx rfl (hb hby d1_0) rfl ?_
    refine XS.bipush X0.here hx rfl (hb hby d1_1) ?_
    refine XS.iand X0.here hx rfl (hb hby d1_3) rfl ?_
    refine XS.istoreN X0.here hx rfl (hb hby d1_4) rfl (l' := #[iv u1, iv (u1 &&& (7 : Int32))]) rfl ?_
    refine XS.iloadN X0.here hx rfl (hb hby d1_5) rfl ?_
    refine XS.ifYes X0.here hx rfl (pc0 := 6) (pc' := 12) rfl (hb hby d1_6) rfl ((if0 _ _).trans (feq P1).2) (by decide) (by decide) ?_
    refine XS.iloadN X0.here hx rfl (hb hby d1_12) rfl ?_
    refine XS.iconst X0.here hx rfl (hb hby d1_13) ?_
    refine XS.icmpYes X0.here hx rfl (pc0 := 14) (pc' := 20) rfl (hb hby d1_14) rfl (feq P2).2 (by decide) (by decide) ?_
    refine XS.iloadN X0.here hx rfl (hb hby d1_20) rfl ?_
    refine XS.iconst X0.here hx rfl (hb hby d1_21) ?_
    refine XS.icmpYes X0.here hx rfl (pc0 := 22) (pc' := 28) rfl (hb hby d1_22) rfl (feq P3).2 (by decide) (by decide) ?_
    refine XS.iloadN X0.here hx rfl (hb hby d1_28) rfl ?_
    refine XS.iconst X0.here hx rfl (hb hby d1_29) ?_
    refine XS.icmpNo X0.here hx rfl (hb hby d1_30) rfl (teq P4).2 ?_
    refine XS.bipush X0.here hx rfl (hb hby d1_33) ?_
    exact retN X0 hx (t := .char) hre (by simp) (hb hby d1_35) hr
  · show Q1_80 Z u1 h0 n0 _ s₁.heap _
    rw [e0]
    exact ⟨rfl, N0, rfl⟩
theorem d1_36 : D1 36 (.iload_n 0) 1 := by decide +kernel
theorem d1_37 : D1 37 (.iconst 3) 1 := by decide +kernel
theorem d1_38 : D1 38 (.iushr) 1 := by decide +kernel
theorem d1_39 : D1 39 (.i2c) 1 := by decide +kernel
theorem d1_40 : D1 40 (.ireturn) 1 := by decide +kernel
def Q1_81 (Z : State) (u1 : Int32) (h0 : Heap) (n0 : Nat) (v : Option Value) (h : Heap) (L : List Loc) : Prop := v = some (.int (nar .char (((u1.toUInt32 >>> ((3 : Int32) &&& 31).toUInt32).toInt32).toUInt32.toUInt16.toUInt32.toInt32))) ∧ Fr n0 L ∧ h = h0
theorem rm1_81 (l : Launch) (Z : State) (a0 : Array Value) (hw : HW Z a0) (ws : List Jvm.Cond) (u1 : Int32) (h0 : Heap) (n0 : Nat) (Z0 : n0 ≤ h0.size) (P1 : ¬ ((u1 &&& (7 : Int32)) = (0 : Int32))) (P2 : ¬ ((u1 &&& (7 : Int32)) = (1 : Int32))) (P3 : ¬ ((u1 &&& (7 : Int32)) = (2 : Int32))) (P4 : ¬ ((u1 &&& (7 : Int32)) = (3 : Int32))) :
    MF l Z mq1 (Jvm.Cond.code mq1 method_2_code 2 (some .char)) ws rq1 #[(.int u1)] h0 (Q1_81 Z u1 h0 n0) := by
  refine own_enter (plainFor_of_name pn_8) fun p e s m below meth c s₁ X0 hx hby hml hown hnm hZ e0 hre hlk => ?_
  have N0 := Fr.nil n0
  have pre0 : ∀ t, SF p e below s₁ (mkF m 0 #[iv u1, .unset] []) t → SF p e below s₁ (entryFrame m #[(.int u1)] 2) t := fun t k => castTop (ef_54 m u1) k
  obtain ⟨fs, hr, hrun, hended, hW, hsame⟩ := X0.leave (v := some (.int (nar .char (((u1.toUInt32 >>> ((3 : Int32) &&& 31).toUInt32).toInt32).toUInt32.toUInt16.toUInt32.toInt32)))) (fun h => by rw [hre] at h; cases h)
  refine ⟨_, _, pre0 _ ?_, hrun, hended, _, _, rfl, ?_, ⟨_, rfl⟩, hW, hsame.mono (by decide) (by decide)⟩
  · show SF p e below s₁ (mkF m 0 #[iv u1, .unset] []) _
    refine XS.iloadN X0.here hx rfl (hb hby d1_0) rfl ?_
    refine XS.bipush X0.here hx rfl (hb hby d1_1) ?_
    refine XS.iand X0.here hx rfl (hb hby d1_3) rfl ?_
    refine XS.istoreN X0.here hx rfl (hb hby d1_4) rfl (l' := #[iv u1, iv (u1 &&& (7 : Int32))]) rfl ?_
    refine XS.iloadN X0.here hx rfl (hb hby d1_5) rfl ?_
    refine XS.ifYes X0.here hx rfl (pc0 := 6) (pc' := 12) rfl (hb hby d1_6) rfl ((if0 _ _).trans (feq P1).2) (by decide) (by decide) ?_
    refine XS.iloadN X0.here hx rfl (hb hby d1_12) rfl ?_
    refine XS.iconst X0.here hx rfl (hb hby d1_13) ?_
    refine XS.icmpYes X0.here hx rfl (pc0 := 14) (pc' := 20) rfl (hb hby d1_14) rfl (feq P2).2 (by decide) (by decide) ?_
    refine XS.iloadN X0.here hx rfl (hb hby d1_20) rfl ?_
    refine XS.iconst X0.here hx rfl (hb hby d1_21) ?_
    refine XS.icmpYes X0.here hx rfl (pc0 := 22) (pc' := 28) rfl (hb hby d1_22) rfl (feq P3).2 (by decide) (by decide) ?_
    refine XS.iloadN X0.here hx rfl (hb hby d1_28) rfl ?_
    refine XS.iconst X0.here hx rfl (hb hby d1_29) ?_
    refine XS.icmpYes X0.here hx rfl (pc0 := 30) (pc' := 36) rfl (hb hby d1_30) rfl (feq P4).2 (by decide) (by decide) ?_
    refine XS.iloadN X0.here hx rfl (hb hby d1_36) rfl ?_
    refine XS.iconst X0.here hx rfl (hb hby d1_37) ?_
    refine XS.iushr X0.here hx rfl (hb hby d1_38) rfl ?_
    refine XS.i2c X0.here hx rfl (hb hby d1_39) rfl ?_
    exact retN X0 hx (t := .char) hre (by simp) (hb hby d1_40) hr
  · show Q1_81 Z u1 h0 n0 _ s₁.heap _
    rw [e0]
    exact ⟨rfl, N0, rfl⟩
theorem pck (l : Launch) (Z : State) (a0 : Array Value) (hw : HW Z a0) (ws : List Jvm.Cond) (xa : Int32) (h0 : Heap) (n0 : Nat) (Z0 : n0 ≤ h0.size) :
    MF l Z mq1 (Jvm.Cond.code mq1 method_2_code 2 (some .char)) ws rq1 #[(.int xa)] h0 (QPk h0 n0) := by
  by_cases hs0 : (xa &&& (7 : Int32)) = (0 : Int32)
  · exact own_mf (rm1_77 l Z a0 hw ws xa h0 n0 Z0 hs0) fun v h L q => ⟨(92 : Int32), q.1, ⟨by decide, by decide⟩, q.2.1, q.2.2⟩
  by_cases hs1 : (xa &&& (7 : Int32)) = (1 : Int32)
  · exact own_mf (rm1_78 l Z a0 hw ws xa h0 n0 Z0 hs0 hs1) fun v h L q => ⟨(9 : Int32), q.1, ⟨by decide, by decide⟩, q.2.1, q.2.2⟩
  by_cases hs2 : (xa &&& (7 : Int32)) = (2 : Int32)
  · exact own_mf (rm1_79 l Z a0 hw ws xa h0 n0 Z0 hs0 hs1 hs2) fun v h L q => ⟨(10 : Int32), q.1, ⟨by decide, by decide⟩, q.2.1, q.2.2⟩
  by_cases hs3 : (xa &&& (7 : Int32)) = (3 : Int32)
  · exact own_mf (rm1_80 l Z a0 hw ws xa h0 n0 Z0 hs0 hs1 hs2 hs3) fun v h L q => ⟨(13 : Int32), q.1, ⟨by decide, by decide⟩, q.2.1, q.2.2⟩
  exact own_mf (rm1_81 l Z a0 hw ws xa h0 n0 Z0 hs0 hs1 hs2 hs3) fun v h L q => ⟨_, q.1, own_narc _, q.2.1, q.2.2⟩
theorem stq (l : Launch) (Z : State) (a0 : Array Value) (hw : HW Z a0) (ws : List Jvm.Cond) (GC : Int32) (GF : Value) (sta stb : Addr) (osa pre suf : List Int32) (ca : Int32) (pl ql : Nat) (h0 : Heap) (n0 : Nat) (Z0 : n0 ≤ h0.size) (S : St Z GC GF) (O : Old Z n0 h0) (B : Str Z h0 sta stb osa) (hb : ∀ c ∈ osa, ¬ c < 0 ∧ ¬ (65535 : Int32) < c) (hk : osa.length < 7) (he : osa = pre ++ enc ca ++ suf) (hp : pre.length = pl) (hq : pl + (enc ca).length = ql) :
    MF l Z mq2 (Jvm.Cond.code mq2 method_3_code 4 (some .int)) ws rq20 #[(.ref sta), (.int (Int32.ofNat pl)), (.int ca)] h0 (QSt ql h0 n0) := by
  subst hp hq
  exact stp l Z a0 hw ws GC GF sta stb osa pre suf ca h0 n0 Z0 S O B hb hk he
theorem pd_37 : parseMethodDescriptor "([C)V" = some ⟨[(.array .char)], none⟩ := by decide +kernel
theorem pd_38 : parseMethodDescriptor "(Ljava/lang/String;)Ljava/lang/String;" = some ⟨[(.object sq3)], some (.object sq3)⟩ := by decide +kernel
theorem lw0 {p : Program} {l : Launch} {e : Env} {s : State} {m : MethodId} {below : List Frame} {meth : Method} {c : Code} {T0 : State} {locs : List Loc} {Z : State} {a0 : Array Value} {h0 : Heap} {n0 : Nat} {GC : Int32} {GF : Value} {p0s p1s p2s p3s xc yc zc : Int32} (X0 : Stand p l e room_1 s m #[(.int p0s), (.int p1s), (.int p2s), (.int p3s)] below meth c T0 locs 0 0) (hx : p.tables.exec = Jvm.exec) (hZ : Z.Warmed39 s.vm) (hw : HW Z a0) (hby : c.code = code) (hml : c.maxLocals = maxLocals) (hown : s.vm.findClass sq1 = some m.cls) (hre : meth.sig.returnType = some .boolean) (hlk : meth.locks = false) (e0 : T0.heap = h0) (N0 : Fr n0 locs) (Z0 : n0 ≤ h0.size) (H0 : CHv Z consts_1 s.vm h0) (S : St Z GC GF) (O : Old Z n0 h0) (hxc : ¬ xc < 0 ∧ ¬ (65535 : Int32) < xc) (hyc : ¬ yc < 0 ∧ ¬ (65535 : Int32) < yc) (hzc : ¬ zc < 0 ∧ ¬ (65535 : Int32) < zc) :
    FinW p e below (fun o t => ∃ v L, o = .returned v ∧ (v = some (.int (1 : Int32)) ∧ Fr n0 L) ∧ ReturnedEndW s o t L room_1.cells room_1.slots) (T0.setTop (mkF m 23 #[iv p0s, iv p1s, iv p2s, iv p3s, iv 0, iv xc, iv yc, iv zc, .unset, .unset, .unset] [])) := by
  have CR0 := CHr.refl H0
  have hEL := own_EW hw
  have hbc : ∀ c ∈ ([] : List Int32), ¬ c < 0 ∧ ¬ (65535 : Int32) < c := by
    intro c hc
    cases hc
  have P1 : Old Z n0 h0 := O
  obtain ⟨T1, h1, X1, e1, E1, A1, D1, -, st1⟩ := newO X0 hx hZ hown (tw hw 4 rfl) (tw hw 5 rfl) (tw hw 6 rfl) e0 (g := (mkF m 28 #[iv p0s, iv p1s, iv p2s, iv p3s, iv 0, iv xc, iv yc, iv zc, .unset, .unset, .unset] [])) rfl (hb hby at_28) (by decide) (by decide)
  obtain ⟨b62, g1⟩ : ∃ z, z = h0.size := ⟨_, rfl⟩
  rw [← g1] at A1 D1 st1
  have K1 : Keep h0 h1 [] := (Keep.refl h0 []).ext E1
  have Fn2 : Fld Z h1 b62 sq3 "coder" "B" (.int 0) := D1 (Or.inr (tw hw 31 rfl)) (ty := .byte) (by decide)
  have Fn3 : Fld Z h1 b62 sq3 "value" "[B" .null := D1 (Or.inr (tw hw 33 rfl)) (ty := (.array .byte)) (by decide)
  obtain ⟨T4, h4, k63, X4, e4, E4, A4, st4⟩ := newP X1 hx hZ (tw hw 7 rfl) e1 (g := (mkF m 33 #[iv p0s, iv p1s, iv p2s, iv p3s, iv 0, iv xc, iv yc, iv zc, .unset, .unset, .unset] [(.int 0), (.ref b62), (.ref b62)])) rfl (hb hby at_33) rfl (by decide) (cap := 0) (by decide) (by decide) (by decide) (by decide)
  obtain ⟨b64, g4⟩ : ∃ z, z = h1.size := ⟨_, rfl⟩
  rw [← g4] at A4 st4
  have K4 : Keep h0 h4 [] := K1.ext E4
  have V4 : Arv Z h4 b64 k63 .char (0 : Int32) [] (.int (0 : Int32)) := (Arv.new A4 (by decide)).pad (pad_rep [] (.int (0 : Int32)) 0)
  have F2_5 : Exa Z h4 b62 sq3 := A1.ext E4
  have F2_6 : Fld Z h4 b62 sq3 "value" "[B" .null := Fn3.ext E4
  have F2_7 : Fld Z h4 b62 sq3 "coder" "B" (.int 0) := Fn2.ext E4
  have g_b62 : n0 ≤ b62 := Nat.le_trans Z0 (Nat.le_of_eq g1.symm)
  have CS0 := CHr.ext E1 CR0.1
  have CR1 := CR0.trans CS0
  have CS1 := CHr.ext E4 CR1.1
  have CR2 := CR1.trans CS1
  have lt_b62_2 : b62 < h4.size := Nat.lt_of_lt_of_le A1.lt E4.1
  have sf_b62_0 : Safe Z consts_1 s.vm h0 b62 := Safe.new (Nat.le_of_eq g1.symm)
  have sf_b62_1 : Safe Z consts_1 s.vm h1 b62 := Safe.ext E1 CR0.1 sf_b62_0
  have sf_b62_2 : Safe Z consts_1 s.vm h4 b62 := CS1.safe A1.lt sf_b62_1
  have Z1 : n0 ≤ h1.size := Nat.le_trans Z0 E1.1
  have Z4 : n0 ≤ h4.size := Nat.le_trans Z1 E4.1
  have O1 : Old Z n0 h1 := P1.ext E1
  have O4 : Old Z n0 h4 := O1.ext E4
  obtain ⟨_, _, ⟨T8, L8, k8x, n8⟩, -, X8, hS8, hgr8, ⟨Lc8, hQ8, l8, y8, z8, hCH8⟩, st8⟩ := X4.specialBackS hx (y := mq18) rfl hown (mvT hZ (tw hw 8 rfl)) (mvT hZ (tw hw 9 rfl)) (mvT hZ (tw hw 10 rfl)) (by decide) (own_backHS (s := s) (vm0 := s.vm) (W := 1) (nw10 l Z a0 hw [] b62 b64 k63  h4 n0 Z4 O4 F2_5 F2_6 F2_7 g_b62 V4) hZ (tw hw 10 rfl) (tw hw 6 rfl) (by decide) (by decide) hEL CR2.1 lt_b62_2 sf_b62_2) (g := (mkF m 35 #[iv p0s, iv p1s, iv p2s, iv p3s, iv 0, iv xc, iv yc, iv zc, .unset, .unset, .unset] [(.ref b64), (.ref b62), (.ref b62)])) rfl (by rw [hml]; rfl) (Steps.refl _) (a := b62) (argsL := [(.ref b64)]) (rest := [(.ref b62)]) (lenOf pd_37 rfl) rfl (Nat.le_of_eq rfl) (hb hby at_35) (fun _ _ => ⟨rfl, e4, (by decide : 2 + 4 ≤ _), (by decide : 4 + 8 ≤ _)⟩)
  dsimp only [Pt.U, Pt.locs, Pt.cells, Pt.slots] at X8 l8 y8 z8 st8 hQ8 hS8 hgr8 hCH8
  subst l8 y8 z8
  have hZ8 : Z.Warmed39 (s.setVm T8.vm).vm := State.Warmed39.trans hZ hS8.1
  have hown8 : (s.setVm T8.vm).vm.findClass sq1 = some m.cls := (hS8.1.alike.findClass _ _).trans hown
  obtain ⟨rfl, N8q, K8c, stt, Bst⟩ := hQ8
  have sz0_b62 : h0.size ≤ b62 := Nat.le_trans (Keep.refl h0 []).1 (Nat.le_of_eq g1.symm)
  have K8 : Keep h0 T8.heap [] := K4.trans K8c (allS (Or.inr sz0_b62) all0)
  have N8 := Fr.app N0 N8q
  have hk8 : T8.heap.size ≤ T8.heap.size := Nat.le_refl _
  have CR3 := CR2.trans hCH8
  have lstt : b62 < T8.heap.size ∧ stt < T8.heap.size := by obtain ⟨_, _, _, _, q1, -, -, q2, -⟩ := Bst; exact ⟨q1.lt, q2.lt⟩
  have Z8 : n0 ≤ T8.heap.size := Nat.le_trans Z4 K8c.1
  have O8 : Old Z n0 T8.heap := O4.keep K8c (allS g_b62 all0)
  obtain ⟨_, _, ⟨T9, L9, k9x, n9⟩, -, X9, hS9, hgr9, ⟨Lc9, hQ9, l9, y9, z9, hCH9⟩, st9⟩ := callSS X8 hx (y := mq0) hown8 (mvT hZ8 (tw hw 34 rfl)) (mvT hZ8 (tw hw 35 rfl)) (mvT hZ8 (tw hw 36 rfl)) (mvT hZ8 (tw hw 37 rfl)) (by decide) (backOfSH (s := s) (vm0 := T8.vm) (W := 0) (esc l Z a0 hw [] GC GF b62 stt ([] : List Int32) T8.heap n0 Z8 S O8 Bst hbc (by simp) lstt.1 lstt.2) hZ8 (tw hw 37 rfl) (tw hw 36 rfl) (by decide) (by decide) hEL CR3.1) (g := (mkF m 129 #[iv p0s, iv p1s, iv p2s, iv p3s, iv 0, iv xc, iv yc, iv zc, rv b62, .unset, .unset] [(.ref b62)])) rfl (by rw [hml]; rfl) (argsL := [(.ref b62)]) (rest := []) (lenOf pd_38 rfl) rfl (Nat.le_of_eq rfl) (hb hby at_129) (fun _ _ => ⟨rfl, rfl, (by decide : 6 + 30 ≤ _), (by decide : 12 + 400 ≤ _)⟩)
  dsimp only [Pt.U, Pt.locs, Pt.cells, Pt.slots] at X9 l9 y9 z9 st9 hQ9 hS9 hgr9 hCH9
  subst l9 y9 z9
  obtain ⟨Xw9, hSw9, hZ9, hown9⟩ := rebS hS8 (n1 := T8.heap.size) hk8 X9 hS9 hgr9 hZ8 hown8
  obtain ⟨ora, ort, rfl, oz1, oz2, N9q, K9c, Bo⟩ := hQ9
  have K9 : Keep h0 T9.heap [] := K8.trans K9c all0
  have N9 := Fr.app N8 N9q
  have hk9 : T9.heap.size ≤ T9.heap.size := Nat.le_refl _
  obtain ⟨osa, eos⟩ : ∃ z, z = ([] : List Int32).flatMap enc := ⟨_, rfl⟩
  rw [← eos] at Bo
  have hob : ∀ c ∈ osa, ¬ c < 0 ∧ ¬ (65535 : Int32) < c := by rw [eos]; exact own_encs hbc
  have hok : osa.length < 7 := by have q := own_encsl ([] : List Int32); rw [← eos] at q; exact Nat.lt_of_le_of_lt q (by simp)
  have eo2 : osa = ([] : List Int32) := by simp [eos]
  have O9 : Old Z n0 T9.heap := O8.keep K9c all0
  obtain ⟨cq10, kq10, q10a, q10b, q10c⟩ := isOf hZ9 rfl Bo.choose_spec.choose_spec.choose_spec.choose_spec.1
  obtain ⟨_, _, ⟨T10, L10, k10x, n10⟩, -, X10, ⟨Lc10, hQ10, l10, y10, z10⟩, st10⟩ := Xw9.virtualBack hx (y := mq26) (z := mq26) hown9 (mvT hZ9 (tw hw 194 rfl)) (mvT hZ9 (tw hw 42 rfl)) (notFace_of_selects (args := #[]) (mvT hZ9 (tw hw 44 rfl))) (mvT hZ9 (tw hw 44 rfl)) (mvT hZ9 (tw hw 43 rfl)) (by decide) (lenA (W := 1) hZ9 hw S O9 Bo hob hok (by decide) (by decide)) q10a q10c (g := (mkF m 192 #[iv p0s, iv p1s, iv p2s, iv p3s, iv 0, iv xc, iv yc, iv zc, rv b62, rv ora, iv 0] [(.ref ora), (.int 0)])) rfl (by rw [hml]; rfl) (Steps.refl _) (argsL := []) (rest := [(.int 0)]) (lenOf pd_19 rfl) rfl (Nat.le_of_eq rfl) (hb hby at_192) (fun _ _ => ⟨rfl, rfl, (by decide : 36 + 0 ≤ _), (by decide : 412 + 0 ≤ _)⟩)
  dsimp only [Pt.U, Pt.locs, Pt.cells, Pt.slots] at X10 l10 y10 z10 st10 hQ10
  subst l10 y10 z10
  obtain ⟨rfl, N10q, e10⟩ := hQ10
  have N10 := Fr.app N9 N10q
  obtain ⟨fs, hr, hrun, hended, hRW⟩ := X10.leaveW hSw9 (by rw [e10]; exact hk9) (v := some (.int (1 : Int32))) (fun h => by rw [hre] at h; cases h)
  unfold FinW
  refine ⟨_, _, ?_, hrun, hended, _, _, rfl, ⟨rfl, N10⟩, hRW.1, hRW.2.1, hRW.2.2.1, hRW.2.2.2.mono (by decide) (by decide)⟩
  show SF p e below T0 (mkF m 23 #[iv p0s, iv p1s, iv p2s, iv p3s, iv 0, iv xc, iv yc, iv zc, .unset, .unset, .unset] []) _
  refine XS.iload X0.here hx rfl (hb hby at_23) rfl ?_
  refine XS.ifNo X0.here hx rfl (hb hby at_25) rfl ((if0 _ _).trans (teq (by decide : (0 : Int32) = (0 : Int32))).2) ?_
  refine st1 _ ?_
  refine XS.dup X1.here hx rfl (hb hby at_31) rfl rfl ?_
  refine XS.iconst X1.here hx rfl (hb hby at_32) ?_
  refine st4 _ ?_
  refine st8.trans ?_
  refine XS.astore X8.here hx rfl (hb hby at_38) rfl rfl (l' := #[iv p0s, iv p1s, iv p2s, iv p3s, iv 0, iv xc, iv yc, iv zc, rv b62, .unset, .unset]) rfl ?_
  refine XS.goto X8.here hx rfl (pc0 := 40) (pc' := 127) rfl (hb hby at_40) (by decide) (by decide) ?_
  refine XS.aload X8.here hx rfl (hb hby at_127) rfl rfl ?_
  refine st9.trans ?_
  refine XS.astore Xw9.here hx rfl (hb hby at_132) rfl rfl (l' := #[iv p0s, iv p1s, iv p2s, iv p3s, iv 0, iv xc, iv yc, iv zc, rv b62, rv ora, .unset]) rfl ?_
  refine XS.iconst Xw9.here hx rfl (hb hby at_134) ?_
  refine XS.istore Xw9.here hx rfl (hb hby at_135) rfl (l' := #[iv p0s, iv p1s, iv p2s, iv p3s, iv 0, iv xc, iv yc, iv zc, rv b62, rv ora, iv 0]) rfl ?_
  refine XS.iload Xw9.here hx rfl (hb hby at_137) rfl ?_
  refine XS.iconst Xw9.here hx rfl (hb hby at_139) ?_
  refine XS.icmpYes Xw9.here hx rfl (pc0 := 140) (pc' := 154) rfl (hb hby at_140) rfl (tlt (by decide : (0 : Int32) < (1 : Int32))).1 (by decide) (by decide) ?_
  refine XS.iload Xw9.here hx rfl (hb hby at_154) rfl ?_
  refine XS.iconst Xw9.here hx rfl (hb hby at_156) ?_
  refine XS.icmpYes Xw9.here hx rfl (pc0 := 157) (pc' := 171) rfl (hb hby at_157) rfl (tlt (by decide : (0 : Int32) < (2 : Int32))).1 (by decide) (by decide) ?_
  refine XS.iload Xw9.here hx rfl (hb hby at_171) rfl ?_
  refine XS.iconst Xw9.here hx rfl (hb hby at_173) ?_
  refine XS.icmpYes Xw9.here hx rfl (pc0 := 174) (pc' := 188) rfl (hb hby at_174) rfl (tlt (by decide : (0 : Int32) < (3 : Int32))).1 (by decide) (by decide) ?_
  refine XS.iload Xw9.here hx rfl (hb hby at_188) rfl ?_
  refine XS.aload Xw9.here hx rfl (hb hby at_190) rfl rfl ?_
  refine st10.trans ?_
  refine XS.icmpNo X10.here hx rfl (hb hby at_195) rfl (teq (show (0 : Int32) = Int32.ofNat osa.length by rw [eo2] <;> rfl)).2 ?_
  refine XS.iconst X10.here hx rfl (hb hby at_198) ?_
  refine XS.goto X10.here hx rfl (pc0 := 199) (pc' := 203) rfl (hb hby at_199) (by decide) (by decide) ?_
  exact retN X10 hx (t := .boolean) hre (by simp) (hb hby at_203) hr
theorem pd_39 : parseMethodDescriptor "(Ljava/lang/String;IC)I" = some ⟨[(.object sq3), .int, .char], some .int⟩ := by decide +kernel
theorem lw1 {p : Program} {l : Launch} {e : Env} {s : State} {m : MethodId} {below : List Frame} {meth : Method} {c : Code} {T0 : State} {locs : List Loc} {Z : State} {a0 : Array Value} {h0 : Heap} {n0 : Nat} {GC : Int32} {GF : Value} {p0s p1s p2s p3s xc yc zc : Int32} (X0 : Stand p l e room_1 s m #[(.int p0s), (.int p1s), (.int p2s), (.int p3s)] below meth c T0 locs 0 0) (hx : p.tables.exec = Jvm.exec) (hZ : Z.Warmed39 s.vm) (hw : HW Z a0) (hby : c.code = code) (hml : c.maxLocals = maxLocals) (hown : s.vm.findClass sq1 = some m.cls) (hre : meth.sig.returnType = some .boolean) (hlk : meth.locks = false) (e0 : T0.heap = h0) (N0 : Fr n0 locs) (Z0 : n0 ≤ h0.size) (H0 : CHv Z consts_1 s.vm h0) (S : St Z GC GF) (O : Old Z n0 h0) (hxc : ¬ xc < 0 ∧ ¬ (65535 : Int32) < xc) (hyc : ¬ yc < 0 ∧ ¬ (65535 : Int32) < yc) (hzc : ¬ zc < 0 ∧ ¬ (65535 : Int32) < zc) :
    FinW p e below (fun o t => ∃ v L, o = .returned v ∧ (v = some (.int (1 : Int32)) ∧ Fr n0 L) ∧ ReturnedEndW s o t L room_1.cells room_1.slots) (T0.setTop (mkF m 23 #[iv p0s, iv p1s, iv p2s, iv p3s, iv 1, iv xc, iv yc, iv zc, .unset, .unset, .unset] [])) := by
  have CR0 := CHr.refl H0
  have hEL := own_EW hw
  have hbc : ∀ c ∈ ([xc] : List Int32), ¬ c < 0 ∧ ¬ (65535 : Int32) < c := by
    intro c hc
    rw [List.mem_singleton.mp hc]; exact hxc
  have P1 : Old Z n0 h0 := O
  obtain ⟨T1, h1, X1, e1, E1, A1, D1, -, st1⟩ := newO X0 hx hZ hown (tw hw 4 rfl) (tw hw 5 rfl) (tw hw 6 rfl) e0 (g := (mkF m 49 #[iv p0s, iv p1s, iv p2s, iv p3s, iv 1, iv xc, iv yc, iv zc, .unset, .unset, .unset] [])) rfl (hb hby at_49) (by decide) (by decide)
  obtain ⟨b65, g1⟩ : ∃ z, z = h0.size := ⟨_, rfl⟩
  rw [← g1] at A1 D1 st1
  have K1 : Keep h0 h1 [] := (Keep.refl h0 []).ext E1
  have Fn2 : Fld Z h1 b65 sq3 "coder" "B" (.int 0) := D1 (Or.inr (tw hw 31 rfl)) (ty := .byte) (by decide)
  have Fn3 : Fld Z h1 b65 sq3 "value" "[B" .null := D1 (Or.inr (tw hw 33 rfl)) (ty := (.array .byte)) (by decide)
  obtain ⟨T4, h4, k66, X4, e4, E4, A4, st4⟩ := newP X1 hx hZ (tw hw 7 rfl) e1 (g := (mkF m 54 #[iv p0s, iv p1s, iv p2s, iv p3s, iv 1, iv xc, iv yc, iv zc, .unset, .unset, .unset] [(.int 1), (.ref b65), (.ref b65)])) rfl (hb hby at_54) rfl (by decide) (cap := 1) (by decide) (by decide) (by decide) (by decide)
  obtain ⟨b67, g4⟩ : ∃ z, z = h1.size := ⟨_, rfl⟩
  rw [← g4] at A4 st4
  have K4 : Keep h0 h4 [] := K1.ext E4
  have V4 : Arv Z h4 b67 k66 .char (1 : Int32) [(.int 0)] (.int (0 : Int32)) := (Arv.new A4 (by decide)).pad (pad_rep [] (.int (0 : Int32)) 1)
  obtain ⟨cl5, Ar5, q5, S5, N5z, H5, G5⟩ := id V4
  have hin5 : ¬ ((0 : Int32) < 0 ∨ cl5.slots.size ≤ ((0 : Int32)).toNatClampNeg) := inb_of S5 ⟨by decide, by decide⟩
  obtain ⟨T6, h6, X6, e6, W6, st6⟩ := stC X4 hx hZ e4 Ar5 (j := (0 : Int32)) hin5 (g := (mkF m 60 #[iv p0s, iv p1s, iv p2s, iv p3s, iv 1, iv xc, iv yc, iv zc, .unset, .unset, .unset] [(.int xc), (.int 0), (.ref b67), (.ref b67), (.ref b65), (.ref b65)])) rfl rfl (hb hby at_60)
  have Z1 : n0 ≤ h1.size := Nat.le_trans Z0 E1.1
  have g_b67 : n0 ≤ b67 := Nat.le_trans Z1 (Nat.le_of_eq g4.symm)
  have sz0_b67 : h0.size ≤ b67 := Nat.le_trans K1.1 (Nat.le_of_eq g4.symm)
  have K6 : Keep h0 h6 [] := K4.wr W6 (Or.inr sz0_b67)
  have N6 := Fr.snoc X6 N0 g_b67
  have V6 : Arv Z h6 b67 k66 .char (1 : Int32) [(.int (nar .char xc))] (.int (0 : Int32)) := Arv.set Ar5 q5 S5 N5z H5 G5 (fits_nar_char _) W6 0 rfl (Nat.le_of_ble_eq_true rfl)
  have Kc : Arv Z h6 b67 k66 .char (Int32.ofNat ([xc] : List Int32).length) (own_ci ([xc] : List Int32)) (.int (0 : Int32)) := by have q := V6; rw [own_nc hxc.1 hxc.2] at q; exact q
  have Z4 : n0 ≤ h4.size := Nat.le_trans Z1 E4.1
  have Z6 : n0 ≤ h6.size := Nat.le_trans Z4 (Keep.of_wr W6).1
  have O1 : Old Z n0 h1 := P1.ext E1
  have O4 : Old Z n0 h4 := O1.ext E4
  have O6 : Old Z n0 h6 := O4.wr W6 g_b67
  have F2_8 : Exa Z h4 b65 sq3 := A1.ext E4
  have F3_9 : Exa Z h6 b65 sq3 := F2_8.wr W6
  have F2_10 : Fld Z h4 b65 sq3 "value" "[B" .null := Fn3.ext E4
  have F3_11 : Fld Z h6 b65 sq3 "value" "[B" .null := F2_10.other W6 (Or.inl (Nat.ne_of_lt (Nat.lt_of_lt_of_le A1.lt (Nat.le_of_eq g4.symm))))
  have F2_12 : Fld Z h4 b65 sq3 "coder" "B" (.int 0) := Fn2.ext E4
  have F3_13 : Fld Z h6 b65 sq3 "coder" "B" (.int 0) := F2_12.other W6 (Or.inl (Nat.ne_of_lt (Nat.lt_of_lt_of_le A1.lt (Nat.le_of_eq g4.symm))))
  have g_b65 : n0 ≤ b65 := Nat.le_trans Z0 (Nat.le_of_eq g1.symm)
  obtain ⟨_, _, ⟨T7, L7, k7x, n7⟩, -, X7, ⟨Lc7, hQ7, l7, y7, z7⟩, st7⟩ := X6.specialBack hx (y := mq18) rfl hown (mvT hZ (tw hw 8 rfl)) (mvT hZ (tw hw 9 rfl)) (mvT hZ (tw hw 10 rfl)) (by decide) (mkA (W := 1) hZ hw S Z6 O6 F3_9 F3_11 F3_13 Kc g_b65 hbc (by simp) (by simp) (by decide) (by decide)) (g := (mkF m 61 #[iv p0s, iv p1s, iv p2s, iv p3s, iv 1, iv xc, iv yc, iv zc, .unset, .unset, .unset] [(.ref b67), (.ref b65), (.ref b65)])) rfl (by rw [hml]; rfl) (Steps.refl _) (a := b65) (argsL := [(.ref b67)]) (rest := [(.ref b65)]) (lenOf pd_37 rfl) rfl (Nat.le_of_eq rfl) (hb hby at_61) (fun _ _ => ⟨rfl, e6, (by decide : 2 + 2 ≤ _), (by decide : 5 + 9 ≤ _)⟩)
  dsimp only [Pt.U, Pt.locs, Pt.cells, Pt.slots] at X7 l7 y7 z7 st7 hQ7
  subst l7
  have Xm7 := X7.mono y7 z7
  obtain ⟨rfl, N7q, K7c, stt, bz_stt, Bst⟩ := hQ7
  have sz0_b65 : h0.size ≤ b65 := Nat.le_trans (Keep.refl h0 []).1 (Nat.le_of_eq g1.symm)
  have K7 : Keep h0 T7.heap [] := K6.trans K7c (allS (Or.inr sz0_b65) all0)
  have N7 := Fr.app N6 N7q
  have CS0 := CHr.ext E1 CR0.1
  have CR1 := CR0.trans CS0
  have CS1 := CHr.ext E4 CR1.1
  have CR2 := CR1.trans CS1
  have sf_b67_1 : Safe Z consts_1 s.vm h1 b67 := Safe.new (Nat.le_of_eq g4.symm)
  have sf_b67_2 : Safe Z consts_1 s.vm h4 b67 := Safe.ext E4 CR1.1 sf_b67_1
  have CS2 := CHr.wr W6 sf_b67_2 CR2.1
  have CR3 := CR2.trans CS2
  have lt_b65_2 : b65 < h4.size := Nat.lt_of_lt_of_le A1.lt E4.1
  have sf_b65_0 : Safe Z consts_1 s.vm h0 b65 := Safe.new (Nat.le_of_eq g1.symm)
  have sf_b65_1 : Safe Z consts_1 s.vm h1 b65 := Safe.ext E1 CR0.1 sf_b65_0
  have sf_b65_2 : Safe Z consts_1 s.vm h4 b65 := CS1.safe A1.lt sf_b65_1
  have sf_b65_3 : Safe Z consts_1 s.vm h6 b65 := CS2.safe lt_b65_2 sf_b65_2
  have CS3 := CHr.keep K7c (sfS sf_b65_3 sf0) CR3.1
  have CR4 := CR3.trans CS3
  have lstt : b65 < T7.heap.size ∧ stt < T7.heap.size := by obtain ⟨_, _, _, _, q1, -, -, q2, -⟩ := Bst; exact ⟨q1.lt, q2.lt⟩
  have Z7 : n0 ≤ T7.heap.size := Nat.le_trans Z6 K7c.1
  have O7 : Old Z n0 T7.heap := O6.keep K7c (allS g_b65 all0)
  obtain ⟨_, _, ⟨T14, L14, k14x, n14⟩, -, X14, hS14, hgr14, ⟨Lc14, hQ14, l14, y14, z14, hCH14⟩, st14⟩ := callSS Xm7 hx (y := mq0) hown (mvT hZ (tw hw 34 rfl)) (mvT hZ (tw hw 35 rfl)) (mvT hZ (tw hw 36 rfl)) (mvT hZ (tw hw 37 rfl)) (by decide) (backOfSH (s := s) (vm0 := s.vm) (W := 0) (esc l Z a0 hw [] GC GF b65 stt ([xc] : List Int32) T7.heap n0 Z7 S O7 Bst hbc (by simp) lstt.1 lstt.2) hZ (tw hw 37 rfl) (tw hw 36 rfl) (by decide) (by decide) hEL CR4.1) (g := (mkF m 129 #[iv p0s, iv p1s, iv p2s, iv p3s, iv 1, iv xc, iv yc, iv zc, rv b65, .unset, .unset] [(.ref b65)])) rfl (by rw [hml]; rfl) (argsL := [(.ref b65)]) (rest := []) (lenOf pd_38 rfl) rfl (Nat.le_of_eq rfl) (hb hby at_129) (fun _ _ => ⟨rfl, rfl, (by decide : 4 + 30 ≤ _), (by decide : 14 + 400 ≤ _)⟩)
  dsimp only [Pt.U, Pt.locs, Pt.cells, Pt.slots] at X14 l14 y14 z14 st14 hQ14 hS14 hgr14 hCH14
  subst l14 y14 z14
  have hZ14 : Z.Warmed39 (s.setVm T14.vm).vm := State.Warmed39.trans hZ hS14.1
  have hown14 : (s.setVm T14.vm).vm.findClass sq1 = some m.cls := (hS14.1.alike.findClass _ _).trans hown
  obtain ⟨ora, ort, rfl, oz1, oz2, N14q, K14c, Bo⟩ := hQ14
  have K14 : Keep h0 T14.heap [] := K7.trans K14c all0
  have N14 := Fr.app N7 N14q
  have hk14 : T14.heap.size ≤ T14.heap.size := Nat.le_refl _
  obtain ⟨osa, eos⟩ : ∃ z, z = ([xc] : List Int32).flatMap enc := ⟨_, rfl⟩
  rw [← eos] at Bo
  have hob : ∀ c ∈ osa, ¬ c < 0 ∧ ¬ (65535 : Int32) < c := by rw [eos]; exact own_encs hbc
  have hok : osa.length < 7 := by have q := own_encsl ([xc] : List Int32); rw [← eos] at q; exact Nat.lt_of_le_of_lt q (by simp)
  have eo2 : osa = (enc xc) := by simp [eos]
  have Z14 : n0 ≤ T14.heap.size := Nat.le_trans Z7 K14c.1
  have O14 : Old Z n0 T14.heap := O7.keep K14c all0
  obtain ⟨_, _, ⟨T15, L15, k15x, n15⟩, -, X15, ⟨Lc15, hQ15, l15, y15, z15⟩, st15⟩ := Jvm.LawKit.callS X14 hx (y := mq2) hown14 (mvT hZ14 (tw hw 191 rfl)) (mvT hZ14 (tw hw 192 rfl)) (mvT hZ14 (tw hw 2 rfl)) (mvT hZ14 (tw hw 193 rfl)) (by decide) (backOf (W := 0) (stq l Z a0 hw [] GC GF ora ort osa [] [] xc 0 ((enc xc).length) T14.heap n0 Z14 S O14 Bo hob hok (by simp [eo2]) (by simp) (Nat.zero_add _)) hZ14 (tw hw 193 rfl) (tw hw 2 rfl) (by decide) (by decide)) (g := (mkF m 149 #[iv p0s, iv p1s, iv p2s, iv p3s, iv 1, iv xc, iv yc, iv zc, rv b65, rv ora, iv 0] [(.int xc), (.int 0), (.ref ora)])) rfl (by rw [hml]; rfl) (argsL := [(.ref ora), (.int 0), (.int xc)]) (rest := []) (lenOf pd_39 rfl) rfl (Nat.le_of_eq rfl) (hb hby at_149) (fun _ _ => ⟨rfl, rfl, (by decide : 34 + 0 ≤ _), (by decide : 414 + 0 ≤ _)⟩)
  dsimp only [Pt.U, Pt.locs, Pt.cells, Pt.slots] at X15 l15 y15 z15 st15 hQ15
  subst l15 y15 z15
  obtain ⟨rfl, N15q, e15⟩ := hQ15
  have N15 := Fr.app N14 N15q
  obtain ⟨cq16, kq16, q16a, q16b, q16c⟩ := isOf hZ14 e15 Bo.choose_spec.choose_spec.choose_spec.choose_spec.1
  obtain ⟨_, _, ⟨T16, L16, k16x, n16⟩, -, X16, ⟨Lc16, hQ16, l16, y16, z16⟩, st16⟩ := X15.virtualBack hx (y := mq26) (z := mq26) hown14 (mvT hZ14 (tw hw 194 rfl)) (mvT hZ14 (tw hw 42 rfl)) (notFace_of_selects (args := #[]) (mvT hZ14 (tw hw 44 rfl))) (mvT hZ14 (tw hw 44 rfl)) (mvT hZ14 (tw hw 43 rfl)) (by decide) (lenA (W := 1) hZ14 hw S O14 Bo hob hok (by decide) (by decide)) q16a q16c (g := (mkF m 192 #[iv p0s, iv p1s, iv p2s, iv p3s, iv 1, iv xc, iv yc, iv zc, rv b65, rv ora, iv (Int32.ofNat ((enc xc).length))] [(.ref ora), (.int (Int32.ofNat ((enc xc).length)))])) rfl (by rw [hml]; rfl) (Steps.refl _) (argsL := []) (rest := [(.int (Int32.ofNat ((enc xc).length)))]) (lenOf pd_19 rfl) rfl (Nat.le_of_eq rfl) (hb hby at_192) (fun _ _ => ⟨rfl, e15, (by decide : 34 + 0 ≤ _), (by decide : 414 + 0 ≤ _)⟩)
  dsimp only [Pt.U, Pt.locs, Pt.cells, Pt.slots] at X16 l16 y16 z16 st16 hQ16
  subst l16 y16 z16
  obtain ⟨rfl, N16q, e16⟩ := hQ16
  have N16 := Fr.app N15 N16q
  obtain ⟨fs, hr, hrun, hended, hRW⟩ := X16.leaveW hS14 (by rw [e16]; exact hk14) (v := some (.int (1 : Int32))) (fun h => by rw [hre] at h; cases h)
  unfold FinW
  refine ⟨_, _, ?_, hrun, hended, _, _, rfl, ⟨rfl, N16⟩, hRW.1, hRW.2.1, hRW.2.2.1, hRW.2.2.2.mono (by decide) (by decide)⟩
  show SF p e below T0 (mkF m 23 #[iv p0s, iv p1s, iv p2s, iv p3s, iv 1, iv xc, iv yc, iv zc, .unset, .unset, .unset] []) _
  refine XS.iload X0.here hx rfl (hb hby at_23) rfl ?_
  refine XS.ifYes X0.here hx rfl (pc0 := 25) (pc' := 43) rfl (hb hby at_25) rfl ((if0 _ _).trans (feq (by decide : ¬ ((1 : Int32) = (0 : Int32)))).2) (by decide) (by decide) ?_
  refine XS.iload X0.here hx rfl (hb hby at_43) rfl ?_
  refine XS.iconst X0.here hx rfl (hb hby at_45) ?_
  refine XS.icmpNo X0.here hx rfl (hb hby at_46) rfl (teq (by decide : (1 : Int32) = (1 : Int32))).2 ?_
  refine st1 _ ?_
  refine XS.dup X1.here hx rfl (hb hby at_52) rfl rfl ?_
  refine XS.iconst X1.here hx rfl (hb hby at_53) ?_
  refine st4 _ ?_
  refine XS.dup X4.here hx rfl (hb hby at_56) rfl rfl ?_
  refine XS.iconst X4.here hx rfl (hb hby at_57) ?_
  refine XS.iload X4.here hx rfl (hb hby at_58) rfl ?_
  refine st6 _ ?_
  refine st7.trans ?_
  refine XS.astore Xm7.here hx rfl (hb hby at_64) rfl rfl (l' := #[iv p0s, iv p1s, iv p2s, iv p3s, iv 1, iv xc, iv yc, iv zc, rv b65, .unset, .unset]) rfl ?_
  refine XS.goto Xm7.here hx rfl (pc0 := 66) (pc' := 127) rfl (hb hby at_66) (by decide) (by decide) ?_
  refine XS.aload Xm7.here hx rfl (hb hby at_127) rfl rfl ?_
  refine st14.trans ?_
  refine XS.astore X14.here hx rfl (hb hby at_132) rfl rfl (l' := #[iv p0s, iv p1s, iv p2s, iv p3s, iv 1, iv xc, iv yc, iv zc, rv b65, rv ora, .unset]) rfl ?_
  refine XS.iconst X14.here hx rfl (hb hby at_134) ?_
  refine XS.istore X14.here hx rfl (hb hby at_135) rfl (l' := #[iv p0s, iv p1s, iv p2s, iv p3s, iv 1, iv xc, iv yc, iv zc, rv b65, rv ora, iv 0]) rfl ?_
  refine XS.iload X14.here hx rfl (hb hby at_137) rfl ?_
  refine XS.iconst X14.here hx rfl (hb hby at_139) ?_
  refine XS.icmpNo X14.here hx rfl (hb hby at_140) rfl (flt (by decide : ¬ ((1 : Int32) < (1 : Int32)))).1 ?_
  refine XS.aload X14.here hx rfl (hb hby at_143) rfl rfl ?_
  refine XS.iload X14.here hx rfl (hb hby at_145) rfl ?_
  refine XS.iload X14.here hx rfl (hb hby at_147) rfl ?_
  refine st15 _ ?_
  refine XS.istore X15.here hx rfl (hb hby at_152) rfl (l' := #[iv p0s, iv p1s, iv p2s, iv p3s, iv 1, iv xc, iv yc, iv zc, rv b65, rv ora, iv (Int32.ofNat ((enc xc).length))]) rfl ?_
  refine XS.iload X15.here hx rfl (hb hby at_154) rfl ?_
  refine XS.iconst X15.here hx rfl (hb hby at_156) ?_
  refine XS.icmpYes X15.here hx rfl (pc0 := 157) (pc' := 171) rfl (hb hby at_157) rfl (tlt (by decide : (1 : Int32) < (2 : Int32))).1 (by decide) (by decide) ?_
  refine XS.iload X15.here hx rfl (hb hby at_171) rfl ?_
  refine XS.iconst X15.here hx rfl (hb hby at_173) ?_
  refine XS.icmpYes X15.here hx rfl (pc0 := 174) (pc' := 188) rfl (hb hby at_174) rfl (tlt (by decide : (1 : Int32) < (3 : Int32))).1 (by decide) (by decide) ?_
  refine XS.iload X15.here hx rfl (hb hby at_188) rfl ?_
  refine XS.aload X15.here hx rfl (hb hby at_190) rfl rfl ?_
  refine st16.trans ?_
  refine XS.icmpNo X16.here hx rfl (hb hby at_195) rfl (teq (congrArg Int32.ofNat (show ((enc xc).length) = osa.length by rw [eo2]))).2 ?_
  refine XS.iconst X16.here hx rfl (hb hby at_198) ?_
  show SF p e below T16 (mkF m 199 #[iv p0s, iv p1s, iv p2s, iv p3s, iv 1, iv xc, iv yc, iv zc, rv b65, rv ora, iv (Int32.ofNat ((enc xc).length))] [(.int 1)]) _
  refine XS.goto X16.here hx rfl (pc0 := 199) (pc' := 203) rfl (hb hby at_199) (by decide) (by decide) ?_
  exact retN X16 hx (t := .boolean) hre (by simp) (hb hby at_203) hr
theorem lw2 {p : Program} {l : Launch} {e : Env} {s : State} {m : MethodId} {below : List Frame} {meth : Method} {c : Code} {T0 : State} {locs : List Loc} {Z : State} {a0 : Array Value} {h0 : Heap} {n0 : Nat} {GC : Int32} {GF : Value} {p0s p1s p2s p3s xc yc zc : Int32} (X0 : Stand p l e room_1 s m #[(.int p0s), (.int p1s), (.int p2s), (.int p3s)] below meth c T0 locs 0 0) (hx : p.tables.exec = Jvm.exec) (hZ : Z.Warmed39 s.vm) (hw : HW Z a0) (hby : c.code = code) (hml : c.maxLocals = maxLocals) (hown : s.vm.findClass sq1 = some m.cls) (hre : meth.sig.returnType = some .boolean) (hlk : meth.locks = false) (e0 : T0.heap = h0) (N0 : Fr n0 locs) (Z0 : n0 ≤ h0.size) (H0 : CHv Z consts_1 s.vm h0) (S : St Z GC GF) (O : Old Z n0 h0) (hxc : ¬ xc < 0 ∧ ¬ (65535 : Int32) < xc) (hyc : ¬ yc < 0 ∧ ¬ (65535 : Int32) < yc) (hzc : ¬ zc < 0 ∧ ¬ (65535 : Int32) < zc) :
    FinW p e below (fun o t => ∃ v L, o = .returned v ∧ (v = some (.int (1 : Int32)) ∧ Fr n0 L) ∧ ReturnedEndW s o t L room_1.cells room_1.slots) (T0.setTop (mkF m 23 #[iv p0s, iv p1s, iv p2s, iv p3s, iv 2, iv xc, iv yc, iv zc, .unset, .unset, .unset] [])) := by
  have CR0 := CHr.refl H0
  have hEL := own_EW hw
  have hbc : ∀ c ∈ ([xc, yc] : List Int32), ¬ c < 0 ∧ ¬ (65535 : Int32) < c := by
    intro c hc
    simp only [List.mem_cons, List.not_mem_nil, or_false] at hc
    rcases hc with rfl | rfl
    · exact hxc
    · exact hyc
  have P1 : Old Z n0 h0 := O
  obtain ⟨T1, h1, X1, e1, E1, A1, D1, -, st1⟩ := newO X0 hx hZ hown (tw hw 4 rfl) (tw hw 5 rfl) (tw hw 6 rfl) e0 (g := (mkF m 75 #[iv p0s, iv p1s, iv p2s, iv p3s, iv 2, iv xc, iv yc, iv zc, .unset, .unset, .unset] [])) rfl (hb hby at_75) (by decide) (by decide)
  obtain ⟨b68, g1⟩ : ∃ z, z = h0.size := ⟨_, rfl⟩
  rw [← g1] at A1 D1 st1
  have K1 : Keep h0 h1 [] := (Keep.refl h0 []).ext E1
  have Fn2 : Fld Z h1 b68 sq3 "coder" "B" (.int 0) := D1 (Or.inr (tw hw 31 rfl)) (ty := .byte) (by decide)
  have Fn3 : Fld Z h1 b68 sq3 "value" "[B" .null := D1 (Or.inr (tw hw 33 rfl)) (ty := (.array .byte)) (by decide)
  obtain ⟨T4, h4, k69, X4, e4, E4, A4, st4⟩ := newP X1 hx hZ (tw hw 7 rfl) e1 (g := (mkF m 80 #[iv p0s, iv p1s, iv p2s, iv p3s, iv 2, iv xc, iv yc, iv zc, .unset, .unset, .unset] [(.int 2), (.ref b68), (.ref b68)])) rfl (hb hby at_80) rfl (by decide) (cap := 2) (by decide) (by decide) (by decide) (by decide)
  obtain ⟨b70, g4⟩ : ∃ z, z = h1.size := ⟨_, rfl⟩
  rw [← g4] at A4 st4
  have K4 : Keep h0 h4 [] := K1.ext E4
  have V4 : Arv Z h4 b70 k69 .char (2 : Int32) [(.int 0), (.int 0)] (.int (0 : Int32)) := (Arv.new A4 (by decide)).pad (pad_rep [] (.int (0 : Int32)) 2)
  obtain ⟨cl5, Ar5, q5, S5, N5z, H5, G5⟩ := id V4
  have hin5 : ¬ ((0 : Int32) < 0 ∨ cl5.slots.size ≤ ((0 : Int32)).toNatClampNeg) := inb_of S5 ⟨by decide, by decide⟩
  obtain ⟨T6, h6, X6, e6, W6, st6⟩ := stC X4 hx hZ e4 Ar5 (j := (0 : Int32)) hin5 (g := (mkF m 86 #[iv p0s, iv p1s, iv p2s, iv p3s, iv 2, iv xc, iv yc, iv zc, .unset, .unset, .unset] [(.int xc), (.int 0), (.ref b70), (.ref b70), (.ref b68), (.ref b68)])) rfl rfl (hb hby at_86)
  have Z1 : n0 ≤ h1.size := Nat.le_trans Z0 E1.1
  have g_b70 : n0 ≤ b70 := Nat.le_trans Z1 (Nat.le_of_eq g4.symm)
  have sz0_b70 : h0.size ≤ b70 := Nat.le_trans K1.1 (Nat.le_of_eq g4.symm)
  have K6 : Keep h0 h6 [] := K4.wr W6 (Or.inr sz0_b70)
  have N6 := Fr.snoc X6 N0 g_b70
  have V6 : Arv Z h6 b70 k69 .char (2 : Int32) [(.int (nar .char xc)), (.int 0)] (.int (0 : Int32)) := Arv.set Ar5 q5 S5 N5z H5 G5 (fits_nar_char _) W6 0 rfl (Nat.le_of_ble_eq_true rfl)
  obtain ⟨cl7, Ar7, q7, S7, N7z, H7, G7⟩ := id V6
  have hin7 : ¬ ((1 : Int32) < 0 ∨ cl7.slots.size ≤ ((1 : Int32)).toNatClampNeg) := inb_of S7 ⟨by decide, by decide⟩
  obtain ⟨T8, h8, X8, e8, W8, st8⟩ := stC X6 hx hZ e6 Ar7 (j := (1 : Int32)) hin7 (g := (mkF m 91 #[iv p0s, iv p1s, iv p2s, iv p3s, iv 2, iv xc, iv yc, iv zc, .unset, .unset, .unset] [(.int yc), (.int 1), (.ref b70), (.ref b70), (.ref b68), (.ref b68)])) rfl rfl (hb hby at_91)
  have K8 : Keep h0 h8 [] := K6.wr W8 (Or.inr sz0_b70)
  have N8 := Fr.snoc X8 N6 g_b70
  have V8 : Arv Z h8 b70 k69 .char (2 : Int32) [(.int (nar .char xc)), (.int (nar .char yc))] (.int (0 : Int32)) := Arv.set Ar7 q7 S7 N7z H7 G7 (fits_nar_char _) W8 1 rfl (Nat.le_of_ble_eq_true rfl)
  have Kc : Arv Z h8 b70 k69 .char (Int32.ofNat ([xc, yc] : List Int32).length) (own_ci ([xc, yc] : List Int32)) (.int (0 : Int32)) := by have q := V8; rw [own_nc hxc.1 hxc.2, own_nc hyc.1 hyc.2] at q; exact q
  have Z4 : n0 ≤ h4.size := Nat.le_trans Z1 E4.1
  have Z6 : n0 ≤ h6.size := Nat.le_trans Z4 (Keep.of_wr W6).1
  have Z8 : n0 ≤ h8.size := Nat.le_trans Z6 (Keep.of_wr W8).1
  have O1 : Old Z n0 h1 := P1.ext E1
  have O4 : Old Z n0 h4 := O1.ext E4
  have O6 : Old Z n0 h6 := O4.wr W6 g_b70
  have O8 : Old Z n0 h8 := O6.wr W8 g_b70
  have F2_10 : Exa Z h4 b68 sq3 := A1.ext E4
  have F3_11 : Exa Z h6 b68 sq3 := F2_10.wr W6
  have F4_12 : Exa Z h8 b68 sq3 := F3_11.wr W8
  have F2_13 : Fld Z h4 b68 sq3 "value" "[B" .null := Fn3.ext E4
  have F3_14 : Fld Z h6 b68 sq3 "value" "[B" .null := F2_13.other W6 (Or.inl (Nat.ne_of_lt (Nat.lt_of_lt_of_le A1.lt (Nat.le_of_eq g4.symm))))
  have F4_15 : Fld Z h8 b68 sq3 "value" "[B" .null := F3_14.other W8 (Or.inl (Nat.ne_of_lt (Nat.lt_of_lt_of_le A1.lt (Nat.le_of_eq g4.symm))))
  have F2_16 : Fld Z h4 b68 sq3 "coder" "B" (.int 0) := Fn2.ext E4
  have F3_17 : Fld Z h6 b68 sq3 "coder" "B" (.int 0) := F2_16.other W6 (Or.inl (Nat.ne_of_lt (Nat.lt_of_lt_of_le A1.lt (Nat.le_of_eq g4.symm))))
  have F4_18 : Fld Z h8 b68 sq3 "coder" "B" (.int 0) := F3_17.other W8 (Or.inl (Nat.ne_of_lt (Nat.lt_of_lt_of_le A1.lt (Nat.le_of_eq g4.symm))))
  have g_b68 : n0 ≤ b68 := Nat.le_trans Z0 (Nat.le_of_eq g1.symm)
  obtain ⟨_, _, ⟨T9, L9, k9x, n9⟩, -, X9, ⟨Lc9, hQ9, l9, y9, z9⟩, st9⟩ := X8.specialBack hx (y := mq18) rfl hown (mvT hZ (tw hw 8 rfl)) (mvT hZ (tw hw 9 rfl)) (mvT hZ (tw hw 10 rfl)) (by decide) (mkA (W := 1) hZ hw S Z8 O8 F4_12 F4_15 F4_18 Kc g_b68 hbc (by simp) (by simp) (by decide) (by decide)) (g := (mkF m 92 #[iv p0s, iv p1s, iv p2s, iv p3s, iv 2, iv xc, iv yc, iv zc, .unset, .unset, .unset] [(.ref b70), (.ref b68), (.ref b68)])) rfl (by rw [hml]; rfl) (Steps.refl _) (a := b68) (argsL := [(.ref b70)]) (rest := [(.ref b68)]) (lenOf pd_37 rfl) rfl (Nat.le_of_eq rfl) (hb hby at_92) (fun _ _ => ⟨rfl, e8, (by decide : 2 + 2 ≤ _), (by decide : 6 + 9 ≤ _)⟩)
  dsimp only [Pt.U, Pt.locs, Pt.cells, Pt.slots] at X9 l9 y9 z9 st9 hQ9
  subst l9
  have Xm9 := X9.mono y9 z9
  obtain ⟨rfl, N9q, K9c, stt, bz_stt, Bst⟩ := hQ9
  have sz0_b68 : h0.size ≤ b68 := Nat.le_trans (Keep.refl h0 []).1 (Nat.le_of_eq g1.symm)
  have K9 : Keep h0 T9.heap [] := K8.trans K9c (allS (Or.inr sz0_b68) all0)
  have N9 := Fr.app N8 N9q
  have CS0 := CHr.ext E1 CR0.1
  have CR1 := CR0.trans CS0
  have CS1 := CHr.ext E4 CR1.1
  have CR2 := CR1.trans CS1
  have sf_b70_1 : Safe Z consts_1 s.vm h1 b70 := Safe.new (Nat.le_of_eq g4.symm)
  have sf_b70_2 : Safe Z consts_1 s.vm h4 b70 := Safe.ext E4 CR1.1 sf_b70_1
  have CS2 := CHr.wr W6 sf_b70_2 CR2.1
  have CR3 := CR2.trans CS2
  have sf_b70_3 : Safe Z consts_1 s.vm h6 b70 := CS2.safe A4.lt sf_b70_2
  have CS3 := CHr.wr W8 sf_b70_3 CR3.1
  have CR4 := CR3.trans CS3
  have lt_b68_2 : b68 < h4.size := Nat.lt_of_lt_of_le A1.lt E4.1
  have lt_b68_3 : b68 < h6.size := Nat.lt_of_lt_of_le lt_b68_2 (Keep.of_wr W6).1
  have sf_b68_0 : Safe Z consts_1 s.vm h0 b68 := Safe.new (Nat.le_of_eq g1.symm)
  have sf_b68_1 : Safe Z consts_1 s.vm h1 b68 := Safe.ext E1 CR0.1 sf_b68_0
  have sf_b68_2 : Safe Z consts_1 s.vm h4 b68 := CS1.safe A1.lt sf_b68_1
  have sf_b68_3 : Safe Z consts_1 s.vm h6 b68 := CS2.safe lt_b68_2 sf_b68_2
  have sf_b68_4 : Safe Z consts_1 s.vm h8 b68 := CS3.safe lt_b68_3 sf_b68_3
  have CS4 := CHr.keep K9c (sfS sf_b68_4 sf0) CR4.1
  have CR5 := CR4.trans CS4
  have lstt : b68 < T9.heap.size ∧ stt < T9.heap.size := by obtain ⟨_, _, _, _, q1, -, -, q2, -⟩ := Bst; exact ⟨q1.lt, q2.lt⟩
  have Z9 : n0 ≤ T9.heap.size := Nat.le_trans Z8 K9c.1
  have O9 : Old Z n0 T9.heap := O8.keep K9c (allS g_b68 all0)
  obtain ⟨_, _, ⟨T19, L19, k19x, n19⟩, -, X19, hS19, hgr19, ⟨Lc19, hQ19, l19, y19, z19, hCH19⟩, st19⟩ := callSS Xm9 hx (y := mq0) hown (mvT hZ (tw hw 34 rfl)) (mvT hZ (tw hw 35 rfl)) (mvT hZ (tw hw 36 rfl)) (mvT hZ (tw hw 37 rfl)) (by decide) (backOfSH (s := s) (vm0 := s.vm) (W := 0) (esc l Z a0 hw [] GC GF b68 stt ([xc, yc] : List Int32) T9.heap n0 Z9 S O9 Bst hbc (by simp) lstt.1 lstt.2) hZ (tw hw 37 rfl) (tw hw 36 rfl) (by decide) (by decide) hEL CR5.1) (g := (mkF m 129 #[iv p0s, iv p1s, iv p2s, iv p3s, iv 2, iv xc, iv yc, iv zc, rv b68, .unset, .unset] [(.ref b68)])) rfl (by rw [hml]; rfl) (argsL := [(.ref b68)]) (rest := []) (lenOf pd_38 rfl) rfl (Nat.le_of_eq rfl) (hb hby at_129) (fun _ _ => ⟨rfl, rfl, (by decide : 4 + 30 ≤ _), (by decide : 15 + 400 ≤ _)⟩)
  dsimp only [Pt.U, Pt.locs, Pt.cells, Pt.slots] at X19 l19 y19 z19 st19 hQ19 hS19 hgr19 hCH19
  subst l19 y19 z19
  have hZ19 : Z.Warmed39 (s.setVm T19.vm).vm := State.Warmed39.trans hZ hS19.1
  have hown19 : (s.setVm T19.vm).vm.findClass sq1 = some m.cls := (hS19.1.alike.findClass _ _).trans hown
  obtain ⟨ora, ort, rfl, oz1, oz2, N19q, K19c, Bo⟩ := hQ19
  have K19 : Keep h0 T19.heap [] := K9.trans K19c all0
  have N19 := Fr.app N9 N19q
  have hk19 : T19.heap.size ≤ T19.heap.size := Nat.le_refl _
  obtain ⟨osa, eos⟩ : ∃ z, z = ([xc, yc] : List Int32).flatMap enc := ⟨_, rfl⟩
  rw [← eos] at Bo
  have hob : ∀ c ∈ osa, ¬ c < 0 ∧ ¬ (65535 : Int32) < c := by rw [eos]; exact own_encs hbc
  have hok : osa.length < 7 := by have q := own_encsl ([xc, yc] : List Int32); rw [← eos] at q; exact Nat.lt_of_le_of_lt q (by simp)
  have eo2 : osa = (enc xc ++ enc yc) := by simp [eos]
  have Z19 : n0 ≤ T19.heap.size := Nat.le_trans Z9 K19c.1
  have O19 : Old Z n0 T19.heap := O9.keep K19c all0
  obtain ⟨_, _, ⟨T20, L20, k20x, n20⟩, -, X20, ⟨Lc20, hQ20, l20, y20, z20⟩, st20⟩ := Jvm.LawKit.callS X19 hx (y := mq2) hown19 (mvT hZ19 (tw hw 191 rfl)) (mvT hZ19 (tw hw 192 rfl)) (mvT hZ19 (tw hw 2 rfl)) (mvT hZ19 (tw hw 193 rfl)) (by decide) (backOf (W := 0) (stq l Z a0 hw [] GC GF ora ort osa [] (enc yc) xc 0 ((enc xc).length) T19.heap n0 Z19 S O19 Bo hob hok (by simp [eo2]) (by simp) (Nat.zero_add _)) hZ19 (tw hw 193 rfl) (tw hw 2 rfl) (by decide) (by decide)) (g := (mkF m 149 #[iv p0s, iv p1s, iv p2s, iv p3s, iv 2, iv xc, iv yc, iv zc, rv b68, rv ora, iv 0] [(.int xc), (.int 0), (.ref ora)])) rfl (by rw [hml]; rfl) (argsL := [(.ref ora), (.int 0), (.int xc)]) (rest := []) (lenOf pd_39 rfl) rfl (Nat.le_of_eq rfl) (hb hby at_149) (fun _ _ => ⟨rfl, rfl, (by decide : 34 + 0 ≤ _), (by decide : 415 + 0 ≤ _)⟩)
  dsimp only [Pt.U, Pt.locs, Pt.cells, Pt.slots] at X20 l20 y20 z20 st20 hQ20
  subst l20 y20 z20
  obtain ⟨rfl, N20q, e20⟩ := hQ20
  have N20 := Fr.app N19 N20q
  obtain ⟨_, _, ⟨T21, L21, k21x, n21⟩, -, X21, ⟨Lc21, hQ21, l21, y21, z21⟩, st21⟩ := Jvm.LawKit.callS X20 hx (y := mq2) hown19 (mvT hZ19 (tw hw 191 rfl)) (mvT hZ19 (tw hw 192 rfl)) (mvT hZ19 (tw hw 2 rfl)) (mvT hZ19 (tw hw 193 rfl)) (by decide) (backOf (W := 0) (stq l Z a0 hw [] GC GF ora ort osa (enc xc) [] yc ((enc xc).length) ((enc xc).length + (enc yc).length) T19.heap n0 Z19 S O19 Bo hob hok (by simp [eo2]) (by simp) rfl) hZ19 (tw hw 193 rfl) (tw hw 2 rfl) (by decide) (by decide)) (g := (mkF m 166 #[iv p0s, iv p1s, iv p2s, iv p3s, iv 2, iv xc, iv yc, iv zc, rv b68, rv ora, iv (Int32.ofNat ((enc xc).length))] [(.int yc), (.int (Int32.ofNat ((enc xc).length))), (.ref ora)])) rfl (by rw [hml]; rfl) (argsL := [(.ref ora), (.int (Int32.ofNat ((enc xc).length))), (.int yc)]) (rest := []) (lenOf pd_39 rfl) rfl (Nat.le_of_eq rfl) (hb hby at_166) (fun _ _ => ⟨rfl, e20, (by decide : 34 + 0 ≤ _), (by decide : 415 + 0 ≤ _)⟩)
  dsimp only [Pt.U, Pt.locs, Pt.cells, Pt.slots] at X21 l21 y21 z21 st21 hQ21
  subst l21 y21 z21
  obtain ⟨rfl, N21q, e21⟩ := hQ21
  have N21 := Fr.app N20 N21q
  obtain ⟨cq22, kq22, q22a, q22b, q22c⟩ := isOf hZ19 e21 Bo.choose_spec.choose_spec.choose_spec.choose_spec.1
  obtain ⟨_, _, ⟨T22, L22, k22x, n22⟩, -, X22, ⟨Lc22, hQ22, l22, y22, z22⟩, st22⟩ := X21.virtualBack hx (y := mq26) (z := mq26) hown19 (mvT hZ19 (tw hw 194 rfl)) (mvT hZ19 (tw hw 42 rfl)) (notFace_of_selects (args := #[]) (mvT hZ19 (tw hw 44 rfl))) (mvT hZ19 (tw hw 44 rfl)) (mvT hZ19 (tw hw 43 rfl)) (by decide) (lenA (W := 1) hZ19 hw S O19 Bo hob hok (by decide) (by decide)) q22a q22c (g := (mkF m 192 #[iv p0s, iv p1s, iv p2s, iv p3s, iv 2, iv xc, iv yc, iv zc, rv b68, rv ora, iv (Int32.ofNat ((enc xc).length + (enc yc).length))] [(.ref ora), (.int (Int32.ofNat ((enc xc).length + (enc yc).length)))])) rfl (by rw [hml]; rfl) (Steps.refl _) (argsL := []) (rest := [(.int (Int32.ofNat ((enc xc).length + (enc yc).length)))]) (lenOf pd_19 rfl) rfl (Nat.le_of_eq rfl) (hb hby at_192) (fun _ _ => ⟨rfl, e21, (by decide : 34 + 0 ≤ _), (by decide : 415 + 0 ≤ _)⟩)
  dsimp only [Pt.U, Pt.locs, Pt.cells, Pt.slots] at X22 l22 y22 z22 st22 hQ22
  subst l22 y22 z22
  obtain ⟨rfl, N22q, e22⟩ := hQ22
  have N22 := Fr.app N21 N22q
  obtain ⟨fs, hr, hrun, hended, hRW⟩ := X22.leaveW hS19 (by rw [e22]; exact hk19) (v := some (.int (1 : Int32))) (fun h => by rw [hre] at h; cases h)
  unfold FinW
  refine ⟨_, _, ?_, hrun, hended, _, _, rfl, ⟨rfl, N22⟩, hRW.1, hRW.2.1, hRW.2.2.1, hRW.2.2.2.mono (by decide) (by decide)⟩
  show SF p e below T0 (mkF m 23 #[iv p0s, iv p1s, iv p2s, iv p3s, iv 2, iv xc, iv yc, iv zc, .unset, .unset, .unset] []) _
  refine XS.iload X0.here hx rfl (hb hby at_23) rfl ?_
  refine XS.ifYes X0.here hx rfl (pc0 := 25) (pc' := 43) rfl (hb hby at_25) rfl ((if0 _ _).trans (feq (by decide : ¬ ((2 : Int32) = (0 : Int32)))).2) (by decide) (by decide) ?_
  refine XS.iload X0.here hx rfl (hb hby at_43) rfl ?_
  refine XS.iconst X0.here hx rfl (hb hby at_45) ?_
  refine XS.icmpYes X0.here hx rfl (pc0 := 46) (pc' := 69) rfl (hb hby at_46) rfl (feq (by decide : ¬ ((2 : Int32) = (1 : Int32)))).2 (by decide) (by decide) ?_
  refine XS.iload X0.here hx rfl (hb hby at_69) rfl ?_
  refine XS.iconst X0.here hx rfl (hb hby at_71) ?_
  refine XS.icmpNo X0.here hx rfl (hb hby at_72) rfl (teq (by decide : (2 : Int32) = (2 : Int32))).2 ?_
  refine st1 _ ?_
  refine XS.dup X1.here hx rfl (hb hby at_78) rfl rfl ?_
  refine XS.iconst X1.here hx rfl (hb hby at_79) ?_
  refine st4 _ ?_
  refine XS.dup X4.here hx rfl (hb hby at_82) rfl rfl ?_
  refine XS.iconst X4.here hx rfl (hb hby at_83) ?_
  refine XS.iload X4.here hx rfl (hb hby at_84) rfl ?_
  refine st6 _ ?_
  refine XS.dup X6.here hx rfl (hb hby at_87) rfl rfl ?_
  refine XS.iconst X6.here hx rfl (hb hby at_88) ?_
  refine XS.iload X6.here hx rfl (hb hby at_89) rfl ?_
  refine st8 _ ?_
  refine st9.trans ?_
  refine XS.astore Xm9.here hx rfl (hb hby at_95) rfl rfl (l' := #[iv p0s, iv p1s, iv p2s, iv p3s, iv 2, iv xc, iv yc, iv zc, rv b68, .unset, .unset]) rfl ?_
  refine XS.goto Xm9.here hx rfl (pc0 := 97) (pc' := 127) rfl (hb hby at_97) (by decide) (by decide) ?_
  refine XS.aload Xm9.here hx rfl (hb hby at_127) rfl rfl ?_
  refine st19.trans ?_
  refine XS.astore X19.here hx rfl (hb hby at_132) rfl rfl (l' := #[iv p0s, iv p1s, iv p2s, iv p3s, iv 2, iv xc, iv yc, iv zc, rv b68, rv ora, .unset]) rfl ?_
  refine XS.iconst X19.here hx rfl (hb hby at_134) ?_
  refine XS.istore X19.here hx rfl (hb hby at_135) rfl (l' := #[iv p0s, iv p1s, iv p2s, iv p3s, iv 2, iv xc, iv yc, iv zc, rv b68, rv ora, iv 0]) rfl ?_
  refine XS.iload X19.here hx rfl (hb hby at_137) rfl ?_
  refine XS.iconst X19.here hx rfl (hb hby at_139) ?_
  refine XS.icmpNo X19.here hx rfl (hb hby at_140) rfl (flt (by decide : ¬ ((2 : Int32) < (1 : Int32)))).1 ?_
  refine XS.aload X19.here hx rfl (hb hby at_143) rfl rfl ?_
  refine XS.iload X19.here hx rfl (hb hby at_145) rfl ?_
  refine XS.iload X19.here hx rfl (hb hby at_147) rfl ?_
  refine st20 _ ?_
  refine XS.istore X20.here hx rfl (hb hby at_152) rfl (l' := #[iv p0s, iv p1s, iv p2s, iv p3s, iv 2, iv xc, iv yc, iv zc, rv b68, rv ora, iv (Int32.ofNat ((enc xc).length))]) rfl ?_
  refine XS.iload X20.here hx rfl (hb hby at_154) rfl ?_
  refine XS.iconst X20.here hx rfl (hb hby at_156) ?_
  refine XS.icmpNo X20.here hx rfl (hb hby at_157) rfl (flt (by decide : ¬ ((2 : Int32) < (2 : Int32)))).1 ?_
  refine XS.aload X20.here hx rfl (hb hby at_160) rfl rfl ?_
  show SF p e below T20 (mkF m 162 #[iv p0s, iv p1s, iv p2s, iv p3s, iv 2, iv xc, iv yc, iv zc, rv b68, rv ora, iv (Int32.ofNat ((enc xc).length))] [(.ref ora)]) _
  refine XS.iload X20.here hx rfl (hb hby at_162) rfl ?_
  refine XS.iload X20.here hx rfl (hb hby at_164) rfl ?_
  refine st21 _ ?_
  refine XS.istore X21.here hx rfl (hb hby at_169) rfl (l' := #[iv p0s, iv p1s, iv p2s, iv p3s, iv 2, iv xc, iv yc, iv zc, rv b68, rv ora, iv (Int32.ofNat ((enc xc).length + (enc yc).length))]) rfl ?_
  refine XS.iload X21.here hx rfl (hb hby at_171) rfl ?_
  refine XS.iconst X21.here hx rfl (hb hby at_173) ?_
  refine XS.icmpYes X21.here hx rfl (pc0 := 174) (pc' := 188) rfl (hb hby at_174) rfl (tlt (by decide : (2 : Int32) < (3 : Int32))).1 (by decide) (by decide) ?_
  refine XS.iload X21.here hx rfl (hb hby at_188) rfl ?_
  refine XS.aload X21.here hx rfl (hb hby at_190) rfl rfl ?_
  refine st22.trans ?_
  refine XS.icmpNo X22.here hx rfl (hb hby at_195) rfl (teq (congrArg Int32.ofNat (show ((enc xc).length + (enc yc).length) = osa.length by rw [eo2]; simp only [List.length_append]))).2 ?_
  refine XS.iconst X22.here hx rfl (hb hby at_198) ?_
  refine XS.goto X22.here hx rfl (pc0 := 199) (pc' := 203) rfl (hb hby at_199) (by decide) (by decide) ?_
  exact retN X22 hx (t := .boolean) hre (by simp) (hb hby at_203) hr
theorem lw3 {p : Program} {l : Launch} {e : Env} {s : State} {m : MethodId} {below : List Frame} {meth : Method} {c : Code} {T0 : State} {locs : List Loc} {Z : State} {a0 : Array Value} {h0 : Heap} {n0 : Nat} {GC : Int32} {GF : Value} {p0s p1s p2s p3s xc yc zc : Int32} (X0 : Stand p l e room_1 s m #[(.int p0s), (.int p1s), (.int p2s), (.int p3s)] below meth c T0 locs 0 0) (hx : p.tables.exec = Jvm.exec) (hZ : Z.Warmed39 s.vm) (hw : HW Z a0) (hby : c.code = code) (hml : c.maxLocals = maxLocals) (hown : s.vm.findClass sq1 = some m.cls) (hre : meth.sig.returnType = some .boolean) (hlk : meth.locks = false) (e0 : T0.heap = h0) (N0 : Fr n0 locs) (Z0 : n0 ≤ h0.size) (H0 : CHv Z consts_1 s.vm h0) (S : St Z GC GF) (O : Old Z n0 h0) (hxc : ¬ xc < 0 ∧ ¬ (65535 : Int32) < xc) (hyc : ¬ yc < 0 ∧ ¬ (65535 : Int32) < yc) (hzc : ¬ zc < 0 ∧ ¬ (65535 : Int32) < zc) :
    FinW p e below (fun o t => ∃ v L, o = .returned v ∧ (v = some (.int (1 : Int32)) ∧ Fr n0 L) ∧ ReturnedEndW s o t L room_1.cells room_1.slots) (T0.setTop (mkF m 23 #[iv p0s, iv p1s, iv p2s, iv p3s, iv 3, iv xc, iv yc, iv zc, .unset, .unset, .unset] [])) := by
  have CR0 := CHr.refl H0
  have hEL := own_EW hw
  have hbc : ∀ c ∈ ([xc, yc, zc] : List Int32), ¬ c < 0 ∧ ¬ (65535 : Int32) < c := by
    intro c hc
    simp only [List.mem_cons, List.not_mem_nil, or_false] at hc
    rcases hc with rfl | rfl | rfl
    · exact hxc
    · exact hyc
    · exact hzc
  have P1 : Old Z n0 h0 := O
  obtain ⟨T1, h1, X1, e1, E1, A1, D1, -, st1⟩ := newO X0 hx hZ hown (tw hw 4 rfl) (tw hw 5 rfl) (tw hw 6 rfl) e0 (g := (mkF m 100 #[iv p0s, iv p1s, iv p2s, iv p3s, iv 3, iv xc, iv yc, iv zc, .unset, .unset, .unset] [])) rfl (hb hby at_100) (by decide) (by decide)
  obtain ⟨b71, g1⟩ : ∃ z, z = h0.size := ⟨_, rfl⟩
  rw [← g1] at A1 D1 st1
  have K1 : Keep h0 h1 [] := (Keep.refl h0 []).ext E1
  have Fn2 : Fld Z h1 b71 sq3 "coder" "B" (.int 0) := D1 (Or.inr (tw hw 31 rfl)) (ty := .byte) (by decide)
  have Fn3 : Fld Z h1 b71 sq3 "value" "[B" .null := D1 (Or.inr (tw hw 33 rfl)) (ty := (.array .byte)) (by decide)
  obtain ⟨T4, h4, k72, X4, e4, E4, A4, st4⟩ := newP X1 hx hZ (tw hw 7 rfl) e1 (g := (mkF m 105 #[iv p0s, iv p1s, iv p2s, iv p3s, iv 3, iv xc, iv yc, iv zc, .unset, .unset, .unset] [(.int 3), (.ref b71), (.ref b71)])) rfl (hb hby at_105) rfl (by decide) (cap := 3) (by decide) (by decide) (by decide) (by decide)
  obtain ⟨b73, g4⟩ : ∃ z, z = h1.size := ⟨_, rfl⟩
  rw [← g4] at A4 st4
  have K4 : Keep h0 h4 [] := K1.ext E4
  have V4 : Arv Z h4 b73 k72 .char (3 : Int32) [(.int 0), (.int 0), (.int 0)] (.int (0 : Int32)) := (Arv.new A4 (by decide)).pad (pad_rep [] (.int (0 : Int32)) 3)
  obtain ⟨cl5, Ar5, q5, S5, N5z, H5, G5⟩ := id V4
  have hin5 : ¬ ((0 : Int32) < 0 ∨ cl5.slots.size ≤ ((0 : Int32)).toNatClampNeg) := inb_of S5 ⟨by decide, by decide⟩
  obtain ⟨T6, h6, X6, e6, W6, st6⟩ := stC X4 hx hZ e4 Ar5 (j := (0 : Int32)) hin5 (g := (mkF m 111 #[iv p0s, iv p1s, iv p2s, iv p3s, iv 3, iv xc, iv yc, iv zc, .unset, .unset, .unset] [(.int xc), (.int 0), (.ref b73), (.ref b73), (.ref b71), (.ref b71)])) rfl rfl (hb hby at_111)
  have Z1 : n0 ≤ h1.size := Nat.le_trans Z0 E1.1
  have g_b73 : n0 ≤ b73 := Nat.le_trans Z1 (Nat.le_of_eq g4.symm)
  have sz0_b73 : h0.size ≤ b73 := Nat.le_trans K1.1 (Nat.le_of_eq g4.symm)
  have K6 : Keep h0 h6 [] := K4.wr W6 (Or.inr sz0_b73)
  have N6 := Fr.snoc X6 N0 g_b73
  have V6 : Arv Z h6 b73 k72 .char (3 : Int32) [(.int (nar .char xc)), (.int 0), (.int 0)] (.int (0 : Int32)) := Arv.set Ar5 q5 S5 N5z H5 G5 (fits_nar_char _) W6 0 rfl (Nat.le_of_ble_eq_true rfl)
  obtain ⟨cl7, Ar7, q7, S7, N7z, H7, G7⟩ := id V6
  have hin7 : ¬ ((1 : Int32) < 0 ∨ cl7.slots.size ≤ ((1 : Int32)).toNatClampNeg) := inb_of S7 ⟨by decide, by decide⟩
  obtain ⟨T8, h8, X8, e8, W8, st8⟩ := stC X6 hx hZ e6 Ar7 (j := (1 : Int32)) hin7 (g := (mkF m 116 #[iv p0s, iv p1s, iv p2s, iv p3s, iv 3, iv xc, iv yc, iv zc, .unset, .unset, .unset] [(.int yc), (.int 1), (.ref b73), (.ref b73), (.ref b71), (.ref b71)])) rfl rfl (hb hby at_116)
  have K8 : Keep h0 h8 [] := K6.wr W8 (Or.inr sz0_b73)
  have N8 := Fr.snoc X8 N6 g_b73
  have V8 : Arv Z h8 b73 k72 .char (3 : Int32) [(.int (nar .char xc)), (.int (nar .char yc)), (.int 0)] (.int (0 : Int32)) := Arv.set Ar7 q7 S7 N7z H7 G7 (fits_nar_char _) W8 1 rfl (Nat.le_of_ble_eq_true rfl)
  obtain ⟨cl9, Ar9, q9, S9, N9z, H9, G9⟩ := id V8
  have hin9 : ¬ ((2 : Int32) < 0 ∨ cl9.slots.size ≤ ((2 : Int32)).toNatClampNeg) := inb_of S9 ⟨by decide, by decide⟩
  obtain ⟨T10, h10, X10, e10, W10, st10⟩ := stC X8 hx hZ e8 Ar9 (j := (2 : Int32)) hin9 (g := (mkF m 121 #[iv p0s, iv p1s, iv p2s, iv p3s, iv 3, iv xc, iv yc, iv zc, .unset, .unset, .unset] [(.int zc), (.int 2), (.ref b73), (.ref b73), (.ref b71), (.ref b71)])) rfl rfl (hb hby at_121)
  have K10 : Keep h0 h10 [] := K8.wr W10 (Or.inr sz0_b73)
  have N10 := Fr.snoc X10 N8 g_b73
  have V10 : Arv Z h10 b73 k72 .char (3 : Int32) [(.int (nar .char xc)), (.int (nar .char yc)), (.int (nar .char zc))] (.int (0 : Int32)) := Arv.set Ar9 q9 S9 N9z H9 G9 (fits_nar_char _) W10 2 rfl (Nat.le_of_ble_eq_true rfl)
  have Kc : Arv Z h10 b73 k72 .char (Int32.ofNat ([xc, yc, zc] : List Int32).length) (own_ci ([xc, yc, zc] : List Int32)) (.int (0 : Int32)) := by have q := V10; rw [own_nc hxc.1 hxc.2, own_nc hyc.1 hyc.2, own_nc hzc.1 hzc.2] at q; exact q
  have Z4 : n0 ≤ h4.size := Nat.le_trans Z1 E4.1
  have Z6 : n0 ≤ h6.size := Nat.le_trans Z4 (Keep.of_wr W6).1
  have Z8 : n0 ≤ h8.size := Nat.le_trans Z6 (Keep.of_wr W8).1
  have Z10 : n0 ≤ h10.size := Nat.le_trans Z8 (Keep.of_wr W10).1
  have O1 : Old Z n0 h1 := P1.ext E1
  have O4 : Old Z n0 h4 := O1.ext E4
  have O6 : Old Z n0 h6 := O4.wr W6 g_b73
  have O8 : Old Z n0 h8 := O6.wr W8 g_b73
  have O10 : Old Z n0 h10 := O8.wr W10 g_b73
  have F2_12 : Exa Z h4 b71 sq3 := A1.ext E4
  have F3_13 : Exa Z h6 b71 sq3 := F2_12.wr W6
  have F4_14 : Exa Z h8 b71 sq3 := F3_13.wr W8
  have F5_15 : Exa Z h10 b71 sq3 := F4_14.wr W10
  have F2_16 : Fld Z h4 b71 sq3 "value" "[B" .null := Fn3.ext E4
  have F3_17 : Fld Z h6 b71 sq3 "value" "[B" .null := F2_16.other W6 (Or.inl (Nat.ne_of_lt (Nat.lt_of_lt_of_le A1.lt (Nat.le_of_eq g4.symm))))
  have F4_18 : Fld Z h8 b71 sq3 "value" "[B" .null := F3_17.other W8 (Or.inl (Nat.ne_of_lt (Nat.lt_of_lt_of_le A1.lt (Nat.le_of_eq g4.symm))))
  have F5_19 : Fld Z h10 b71 sq3 "value" "[B" .null := F4_18.other W10 (Or.inl (Nat.ne_of_lt (Nat.lt_of_lt_of_le A1.lt (Nat.le_of_eq g4.symm))))
  have F2_20 : Fld Z h4 b71 sq3 "coder" "B" (.int 0) := Fn2.ext E4
  have F3_21 : Fld Z h6 b71 sq3 "coder" "B" (.int 0) := F2_20.other W6 (Or.inl (Nat.ne_of_lt (Nat.lt_of_lt_of_le A1.lt (Nat.le_of_eq g4.symm))))
  have F4_22 : Fld Z h8 b71 sq3 "coder" "B" (.int 0) := F3_21.other W8 (Or.inl (Nat.ne_of_lt (Nat.lt_of_lt_of_le A1.lt (Nat.le_of_eq g4.symm))))
  have F5_23 : Fld Z h10 b71 sq3 "coder" "B" (.int 0) := F4_22.other W10 (Or.inl (Nat.ne_of_lt (Nat.lt_of_lt_of_le A1.lt (Nat.le_of_eq g4.symm))))
  have g_b71 : n0 ≤ b71 := Nat.le_trans Z0 (Nat.le_of_eq g1.symm)
  obtain ⟨_, _, ⟨T11, L11, k11x, n11⟩, -, X11, ⟨Lc11, hQ11, l11, y11, z11⟩, st11⟩ := X10.specialBack hx (y := mq18) rfl hown (mvT hZ (tw hw 8 rfl)) (mvT hZ (tw hw 9 rfl)) (mvT hZ (tw hw 10 rfl)) (by decide) (mkA (W := 1) hZ hw S Z10 O10 F5_15 F5_19 F5_23 Kc g_b71 hbc (by simp) (by simp) (by decide) (by decide)) (g := (mkF m 122 #[iv p0s, iv p1s, iv p2s, iv p3s, iv 3, iv xc, iv yc, iv zc, .unset, .unset, .unset] [(.ref b73), (.ref b71), (.ref b71)])) rfl (by rw [hml]; rfl) (Steps.refl _) (a := b71) (argsL := [(.ref b73)]) (rest := [(.ref b71)]) (lenOf pd_37 rfl) rfl (Nat.le_of_eq rfl) (hb hby at_122) (fun _ _ => ⟨rfl, e10, (by decide : 2 + 2 ≤ _), (by decide : 7 + 9 ≤ _)⟩)
  dsimp only [Pt.U, Pt.locs, Pt.cells, Pt.slots] at X11 l11 y11 z11 st11 hQ11
  subst l11
  have Xm11 := X11.mono y11 z11
  obtain ⟨rfl, N11q, K11c, stt, bz_stt, Bst⟩ := hQ11
  have sz0_b71 : h0.size ≤ b71 := Nat.le_trans (Keep.refl h0 []).1 (Nat.le_of_eq g1.symm)
  have K11 : Keep h0 T11.heap [] := K10.trans K11c (allS (Or.inr sz0_b71) all0)
  have N11 := Fr.app N10 N11q
  have CS0 := CHr.ext E1 CR0.1
  have CR1 := CR0.trans CS0
  have CS1 := CHr.ext E4 CR1.1
  have CR2 := CR1.trans CS1
  have sf_b73_1 : Safe Z consts_1 s.vm h1 b73 := Safe.new (Nat.le_of_eq g4.symm)
  have sf_b73_2 : Safe Z consts_1 s.vm h4 b73 := Safe.ext E4 CR1.1 sf_b73_1
  have CS2 := CHr.wr W6 sf_b73_2 CR2.1
  have CR3 := CR2.trans CS2
  have sf_b73_3 : Safe Z consts_1 s.vm h6 b73 := CS2.safe A4.lt sf_b73_2
  have CS3 := CHr.wr W8 sf_b73_3 CR3.1
  have CR4 := CR3.trans CS3
  have lt_b73_3 : b73 < h6.size := Nat.lt_of_lt_of_le A4.lt (Keep.of_wr W6).1
  have sf_b73_4 : Safe Z consts_1 s.vm h8 b73 := CS3.safe lt_b73_3 sf_b73_3
  have CS4 := CHr.wr W10 sf_b73_4 CR4.1
  have CR5 := CR4.trans CS4
  have lt_b71_2 : b71 < h4.size := Nat.lt_of_lt_of_le A1.lt E4.1
  have lt_b71_3 : b71 < h6.size := Nat.lt_of_lt_of_le lt_b71_2 (Keep.of_wr W6).1
  have lt_b71_4 : b71 < h8.size := Nat.lt_of_lt_of_le lt_b71_3 (Keep.of_wr W8).1
  have sf_b71_0 : Safe Z consts_1 s.vm h0 b71 := Safe.new (Nat.le_of_eq g1.symm)
  have sf_b71_1 : Safe Z consts_1 s.vm h1 b71 := Safe.ext E1 CR0.1 sf_b71_0
  have sf_b71_2 : Safe Z consts_1 s.vm h4 b71 := CS1.safe A1.lt sf_b71_1
  have sf_b71_3 : Safe Z consts_1 s.vm h6 b71 := CS2.safe lt_b71_2 sf_b71_2
  have sf_b71_4 : Safe Z consts_1 s.vm h8 b71 := CS3.safe lt_b71_3 sf_b71_3
  have sf_b71_5 : Safe Z consts_1 s.vm h10 b71 := CS4.safe lt_b71_4 sf_b71_4
  have CS5 := CHr.keep K11c (sfS sf_b71_5 sf0) CR5.1
  have CR6 := CR5.trans CS5
  have lstt : b71 < T11.heap.size ∧ stt < T11.heap.size := by obtain ⟨_, _, _, _, q1, -, -, q2, -⟩ := Bst; exact ⟨q1.lt, q2.lt⟩
  have Z11 : n0 ≤ T11.heap.size := Nat.le_trans Z10 K11c.1
  have O11 : Old Z n0 T11.heap := O10.keep K11c (allS g_b71 all0)
  obtain ⟨_, _, ⟨T24, L24, k24x, n24⟩, -, X24, hS24, hgr24, ⟨Lc24, hQ24, l24, y24, z24, hCH24⟩, st24⟩ := callSS Xm11 hx (y := mq0) hown (mvT hZ (tw hw 34 rfl)) (mvT hZ (tw hw 35 rfl)) (mvT hZ (tw hw 36 rfl)) (mvT hZ (tw hw 37 rfl)) (by decide) (backOfSH (s := s) (vm0 := s.vm) (W := 0) (esc l Z a0 hw [] GC GF b71 stt ([xc, yc, zc] : List Int32) T11.heap n0 Z11 S O11 Bst hbc (by simp) lstt.1 lstt.2) hZ (tw hw 37 rfl) (tw hw 36 rfl) (by decide) (by decide) hEL CR6.1) (g := (mkF m 129 #[iv p0s, iv p1s, iv p2s, iv p3s, iv 3, iv xc, iv yc, iv zc, rv b71, .unset, .unset] [(.ref b71)])) rfl (by rw [hml]; rfl) (argsL := [(.ref b71)]) (rest := []) (lenOf pd_38 rfl) rfl (Nat.le_of_eq rfl) (hb hby at_129) (fun _ _ => ⟨rfl, rfl, (by decide : 4 + 30 ≤ _), (by decide : 16 + 400 ≤ _)⟩)
  dsimp only [Pt.U, Pt.locs, Pt.cells, Pt.slots] at X24 l24 y24 z24 st24 hQ24 hS24 hgr24 hCH24
  subst l24 y24 z24
  have hZ24 : Z.Warmed39 (s.setVm T24.vm).vm := State.Warmed39.trans hZ hS24.1
  have hown24 : (s.setVm T24.vm).vm.findClass sq1 = some m.cls := (hS24.1.alike.findClass _ _).trans hown
  obtain ⟨ora, ort, rfl, oz1, oz2, N24q, K24c, Bo⟩ := hQ24
  have K24 : Keep h0 T24.heap [] := K11.trans K24c all0
  have N24 := Fr.app N11 N24q
  have hk24 : T24.heap.size ≤ T24.heap.size := Nat.le_refl _
  obtain ⟨osa, eos⟩ : ∃ z, z = ([xc, yc, zc] : List Int32).flatMap enc := ⟨_, rfl⟩
  rw [← eos] at Bo
  have hob : ∀ c ∈ osa, ¬ c < 0 ∧ ¬ (65535 : Int32) < c := by rw [eos]; exact own_encs hbc
  have hok : osa.length < 7 := by have q := own_encsl ([xc, yc, zc] : List Int32); rw [← eos] at q; exact Nat.lt_of_le_of_lt q (by simp)
  have eo2 : osa = (enc xc ++ enc yc ++ enc zc) := by simp [eos]
  have Z24 : n0 ≤ T24.heap.size := Nat.le_trans Z11 K24c.1
  have O24 : Old Z n0 T24.heap := O11.keep K24c all0
  obtain ⟨_, _, ⟨T25, L25, k25x, n25⟩, -, X25, ⟨Lc25, hQ25, l25, y25, z25⟩, st25⟩ := Jvm.LawKit.callS X24 hx (y := mq2) hown24 (mvT hZ24 (tw hw 191 rfl)) (mvT hZ24 (tw hw 192 rfl)) (mvT hZ24 (tw hw 2 rfl)) (mvT hZ24 (tw hw 193 rfl)) (by decide) (backOf (W := 0) (stq l Z a0 hw [] GC GF ora ort osa [] (enc yc ++ enc zc) xc 0 ((enc xc).length) T24.heap n0 Z24 S O24 Bo hob hok (by simp [eo2]) (by simp) (Nat.zero_add _)) hZ24 (tw hw 193 rfl) (tw hw 2 rfl) (by decide) (by decide)) (g := (mkF m 149 #[iv p0s, iv p1s, iv p2s, iv p3s, iv 3, iv xc, iv yc, iv zc, rv b71, rv ora, iv 0] [(.int xc), (.int 0), (.ref ora)])) rfl (by rw [hml]; rfl) (argsL := [(.ref ora), (.int 0), (.int xc)]) (rest := []) (lenOf pd_39 rfl) rfl (Nat.le_of_eq rfl) (hb hby at_149) (fun _ _ => ⟨rfl, rfl, (by decide : 34 + 0 ≤ _), (by decide : 416 + 0 ≤ _)⟩)
  dsimp only [Pt.U, Pt.locs, Pt.cells, Pt.slots] at X25 l25 y25 z25 st25 hQ25
  subst l25 y25 z25
  obtain ⟨rfl, N25q, e25⟩ := hQ25
  have N25 := Fr.app N24 N25q
  obtain ⟨_, _, ⟨T26, L26, k26x, n26⟩, -, X26, ⟨Lc26, hQ26, l26, y26, z26⟩, st26⟩ := Jvm.LawKit.callS X25 hx (y := mq2) hown24 (mvT hZ24 (tw hw 191 rfl)) (mvT hZ24 (tw hw 192 rfl)) (mvT hZ24 (tw hw 2 rfl)) (mvT hZ24 (tw hw 193 rfl)) (by decide) (backOf (W := 0) (stq l Z a0 hw [] GC GF ora ort osa (enc xc) (enc zc) yc ((enc xc).length) ((enc xc).length + (enc yc).length) T24.heap n0 Z24 S O24 Bo hob hok (by simp [eo2]) (by simp) rfl) hZ24 (tw hw 193 rfl) (tw hw 2 rfl) (by decide) (by decide)) (g := (mkF m 166 #[iv p0s, iv p1s, iv p2s, iv p3s, iv 3, iv xc, iv yc, iv zc, rv b71, rv ora, iv (Int32.ofNat ((enc xc).length))] [(.int yc), (.int (Int32.ofNat ((enc xc).length))), (.ref ora)])) rfl (by rw [hml]; rfl) (argsL := [(.ref ora), (.int (Int32.ofNat ((enc xc).length))), (.int yc)]) (rest := []) (lenOf pd_39 rfl) rfl (Nat.le_of_eq rfl) (hb hby at_166) (fun _ _ => ⟨rfl, e25, (by decide : 34 + 0 ≤ _), (by decide : 416 + 0 ≤ _)⟩)
  dsimp only [Pt.U, Pt.locs, Pt.cells, Pt.slots] at X26 l26 y26 z26 st26 hQ26
  subst l26 y26 z26
  obtain ⟨rfl, N26q, e26⟩ := hQ26
  have N26 := Fr.app N25 N26q
  obtain ⟨_, _, ⟨T27, L27, k27x, n27⟩, -, X27, ⟨Lc27, hQ27, l27, y27, z27⟩, st27⟩ := Jvm.LawKit.callS X26 hx (y := mq2) hown24 (mvT hZ24 (tw hw 191 rfl)) (mvT hZ24 (tw hw 192 rfl)) (mvT hZ24 (tw hw 2 rfl)) (mvT hZ24 (tw hw 193 rfl)) (by decide) (backOf (W := 0) (stq l Z a0 hw [] GC GF ora ort osa (enc xc ++ enc yc) [] zc ((enc xc).length + (enc yc).length) ((enc xc).length + (enc yc).length + (enc zc).length) T24.heap n0 Z24 S O24 Bo hob hok (by simp [eo2]) (by simp) rfl) hZ24 (tw hw 193 rfl) (tw hw 2 rfl) (by decide) (by decide)) (g := (mkF m 183 #[iv p0s, iv p1s, iv p2s, iv p3s, iv 3, iv xc, iv yc, iv zc, rv b71, rv ora, iv (Int32.ofNat ((enc xc).length + (enc yc).length))] [(.int zc), (.int (Int32.ofNat ((enc xc).length + (enc yc).length))), (.ref ora)])) rfl (by rw [hml]; rfl) (argsL := [(.ref ora), (.int (Int32.ofNat ((enc xc).length + (enc yc).length))), (.int zc)]) (rest := []) (lenOf pd_39 rfl) rfl (Nat.le_of_eq rfl) (hb hby at_183) (fun _ _ => ⟨rfl, e26, (by decide : 34 + 0 ≤ _), (by decide : 416 + 0 ≤ _)⟩)
  dsimp only [Pt.U, Pt.locs, Pt.cells, Pt.slots] at X27 l27 y27 z27 st27 hQ27
  subst l27 y27 z27
  obtain ⟨rfl, N27q, e27⟩ := hQ27
  have N27 := Fr.app N26 N27q
  obtain ⟨cq28, kq28, q28a, q28b, q28c⟩ := isOf hZ24 e27 Bo.choose_spec.choose_spec.choose_spec.choose_spec.1
  obtain ⟨_, _, ⟨T28, L28, k28x, n28⟩, -, X28, ⟨Lc28, hQ28, l28, y28, z28⟩, st28⟩ := X27.virtualBack hx (y := mq26) (z := mq26) hown24 (mvT hZ24 (tw hw 194 rfl)) (mvT hZ24 (tw hw 42 rfl)) (notFace_of_selects (args := #[]) (mvT hZ24 (tw hw 44 rfl))) (mvT hZ24 (tw hw 44 rfl)) (mvT hZ24 (tw hw 43 rfl)) (by decide) (lenA (W := 1) hZ24 hw S O24 Bo hob hok (by decide) (by decide)) q28a q28c (g := (mkF m 192 #[iv p0s, iv p1s, iv p2s, iv p3s, iv 3, iv xc, iv yc, iv zc, rv b71, rv ora, iv (Int32.ofNat ((enc xc).length + (enc yc).length + (enc zc).length))] [(.ref ora), (.int (Int32.ofNat ((enc xc).length + (enc yc).length + (enc zc).length)))])) rfl (by rw [hml]; rfl) (Steps.refl _) (argsL := []) (rest := [(.int (Int32.ofNat ((enc xc).length + (enc yc).length + (enc zc).length)))]) (lenOf pd_19 rfl) rfl (Nat.le_of_eq rfl) (hb hby at_192) (fun _ _ => ⟨rfl, e27, (by decide : 34 + 0 ≤ _), (by decide : 416 + 0 ≤ _)⟩)
  dsimp only [Pt.U, Pt.locs, Pt.cells, Pt.slots] at X28 l28 y28 z28 st28 hQ28
  subst l28 y28 z28
  obtain ⟨rfl, N28q, e28⟩ := hQ28
  have N28 := Fr.app N27 N28q
  obtain ⟨fs, hr, hrun, hended, hRW⟩ := X28.leaveW hS24 (by rw [e28]; exact hk24) (v := some (.int (1 : Int32))) (fun h => by rw [hre] at h; cases h)
  unfold FinW
  refine ⟨_, _, ?_, hrun, hended, _, _, rfl, ⟨rfl, N28⟩, hRW.1, hRW.2.1, hRW.2.2.1, hRW.2.2.2.mono (by decide) (by decide)⟩
  show SF p e below T0 (mkF m 23 #[iv p0s, iv p1s, iv p2s, iv p3s, iv 3, iv xc, iv yc, iv zc, .unset, .unset, .unset] []) _
  refine XS.iload X0.here hx rfl (hb hby at_23) rfl ?_
  refine XS.ifYes X0.here hx rfl (pc0 := 25) (pc' := 43) rfl (hb hby at_25) rfl ((if0 _ _).trans (feq (by decide : ¬ ((3 : Int32) = (0 : Int32)))).2) (by decide) (by decide) ?_
  refine XS.iload X0.here hx rfl (hb hby at_43) rfl ?_
  refine XS.iconst X0.here hx rfl (hb hby at_45) ?_
  refine XS.icmpYes X0.here hx rfl (pc0 := 46) (pc' := 69) rfl (hb hby at_46) rfl (feq (by decide : ¬ ((3 : Int32) = (1 : Int32)))).2 (by decide) (by decide) ?_
  refine XS.iload X0.here hx rfl (hb hby at_69) rfl ?_
  refine XS.iconst X0.here hx rfl (hb hby at_71) ?_
  refine XS.icmpYes X0.here hx rfl (pc0 := 72) (pc' := 100) rfl (hb hby at_72) rfl (feq (by decide : ¬ ((3 : Int32) = (2 : Int32)))).2 (by decide) (by decide) ?_
  refine st1 _ ?_
  refine XS.dup X1.here hx rfl (hb hby at_103) rfl rfl ?_
  refine XS.iconst X1.here hx rfl (hb hby at_104) ?_
  refine st4 _ ?_
  refine XS.dup X4.here hx rfl (hb hby at_107) rfl rfl ?_
  refine XS.iconst X4.here hx rfl (hb hby at_108) ?_
  refine XS.iload X4.here hx rfl (hb hby at_109) rfl ?_
  refine st6 _ ?_
  refine XS.dup X6.here hx rfl (hb hby at_112) rfl rfl ?_
  refine XS.iconst X6.here hx rfl (hb hby at_113) ?_
  refine XS.iload X6.here hx rfl (hb hby at_114) rfl ?_
  refine st8 _ ?_
  refine XS.dup X8.here hx rfl (hb hby at_117) rfl rfl ?_
  refine XS.iconst X8.here hx rfl (hb hby at_118) ?_
  refine XS.iload X8.here hx rfl (hb hby at_119) rfl ?_
  refine st10 _ ?_
  refine st11.trans ?_
  refine XS.astore Xm11.here hx rfl (hb hby at_125) rfl rfl (l' := #[iv p0s, iv p1s, iv p2s, iv p3s, iv 3, iv xc, iv yc, iv zc, rv b71, .unset, .unset]) rfl ?_
  refine XS.aload Xm11.here hx rfl (hb hby at_127) rfl rfl ?_
  refine st24.trans ?_
  refine XS.astore X24.here hx rfl (hb hby at_132) rfl rfl (l' := #[iv p0s, iv p1s, iv p2s, iv p3s, iv 3, iv xc, iv yc, iv zc, rv b71, rv ora, .unset]) rfl ?_
  refine XS.iconst X24.here hx rfl (hb hby at_134) ?_
  refine XS.istore X24.here hx rfl (hb hby at_135) rfl (l' := #[iv p0s, iv p1s, iv p2s, iv p3s, iv 3, iv xc, iv yc, iv zc, rv b71, rv ora, iv 0]) rfl ?_
  refine XS.iload X24.here hx rfl (hb hby at_137) rfl ?_
  refine XS.iconst X24.here hx rfl (hb hby at_139) ?_
  refine XS.icmpNo X24.here hx rfl (hb hby at_140) rfl (flt (by decide : ¬ ((3 : Int32) < (1 : Int32)))).1 ?_
  refine XS.aload X24.here hx rfl (hb hby at_143) rfl rfl ?_
  refine XS.iload X24.here hx rfl (hb hby at_145) rfl ?_
  refine XS.iload X24.here hx rfl (hb hby at_147) rfl ?_
  refine st25 _ ?_
  refine XS.istore X25.here hx rfl (hb hby at_152) rfl (l' := #[iv p0s, iv p1s, iv p2s, iv p3s, iv 3, iv xc, iv yc, iv zc, rv b71, rv ora, iv (Int32.ofNat ((enc xc).length))]) rfl ?_
  refine XS.iload X25.here hx rfl (hb hby at_154) rfl ?_
  show SF p e below T25 (mkF m 156 #[iv p0s, iv p1s, iv p2s, iv p3s, iv 3, iv xc, iv yc, iv zc, rv b71, rv ora, iv (Int32.ofNat ((enc xc).length))] [(.int 3)]) _
  refine XS.iconst X25.here hx rfl (hb hby at_156) ?_
  refine XS.icmpNo X25.here hx rfl (hb hby at_157) rfl (flt (by decide : ¬ ((3 : Int32) < (2 : Int32)))).1 ?_
  refine XS.aload X25.here hx rfl (hb hby at_160) rfl rfl ?_
  refine XS.iload X25.here hx rfl (hb hby at_162) rfl ?_
  refine XS.iload X25.here hx rfl (hb hby at_164) rfl ?_
  refine st26 _ ?_
  refine XS.istore X26.here hx rfl (hb hby at_169) rfl (l' := #[iv p0s, iv p1s, iv p2s, iv p3s, iv 3, iv xc, iv yc, iv zc, rv b71, rv ora, iv (Int32.ofNat ((enc xc).length + (enc yc).length))]) rfl ?_
  refine XS.iload X26.here hx rfl (hb hby at_171) rfl ?_
  refine XS.iconst X26.here hx rfl (hb hby at_173) ?_
  refine XS.icmpNo X26.here hx rfl (hb hby at_174) rfl (flt (by decide : ¬ ((3 : Int32) < (3 : Int32)))).1 ?_
  refine XS.aload X26.here hx rfl (hb hby at_177) rfl rfl ?_
  refine XS.iload X26.here hx rfl (hb hby at_179) rfl ?_
  refine XS.iload X26.here hx rfl (hb hby at_181) rfl ?_
  refine st27 _ ?_
  refine XS.istore X27.here hx rfl (hb hby at_186) rfl (l' := #[iv p0s, iv p1s, iv p2s, iv p3s, iv 3, iv xc, iv yc, iv zc, rv b71, rv ora, iv (Int32.ofNat ((enc xc).length + (enc yc).length + (enc zc).length))]) rfl ?_
  refine XS.iload X27.here hx rfl (hb hby at_188) rfl ?_
  refine XS.aload X27.here hx rfl (hb hby at_190) rfl rfl ?_
  refine st28.trans ?_
  refine XS.icmpNo X28.here hx rfl (hb hby at_195) rfl (teq (congrArg Int32.ofNat (show ((enc xc).length + (enc yc).length + (enc zc).length) = osa.length by rw [eo2]; simp only [List.length_append]))).2 ?_
  refine XS.iconst X28.here hx rfl (hb hby at_198) ?_
  refine XS.goto X28.here hx rfl (pc0 := 199) (pc' := 203) rfl (hb hby at_199) (by decide) (by decide) ?_
  exact retN X28 hx (t := .boolean) hre (by simp) (hb hby at_203) hr
theorem ef_55 (m : MethodId) (x0 : Int32) (x1 : Int32) (x2 : Int32) (x3 : Int32) : entryFrame m #[(.int x0), (.int x1), (.int x2), (.int x3)] maxLocals = mkF m 0 #[.val (.int x0), .val (.int x1), .val (.int x2), .val (.int x3), .unset, .unset, .unset, .unset, .unset, .unset, .unset] [] := by first | (simp [entryFrame, mkF, argsToLocals, Value.category, maxLocals]; done) | rfl
theorem rm0 (l : Launch) (Z : State) (a0 : Array Value) (hw : HW Z a0) (ws : List Jvm.Cond) (p0s p1s p2s p3s : Int32) (GC : Int32) (GF : Value) (h0 : Heap) (n0 : Nat) (Z0 : n0 ≤ h0.size) (O : Old Z n0 h0) (S : St Z GC GF) :
    MetFree l x (head1 (Jvm.Cond.code x code maxLocals ret :: ws) room_1) (fun a U => a = #[(.int p0s), (.int p1s), (.int p2s), (.int p3s)] ∧ Z.Warmed39 U.vm ∧ U.heap = h0 ∧ CHv Z consts_1 U.vm h0) (fun _ _ _ _ _ => True) (fun _ U o U' => ∃ v L, o = .returned v ∧ (v = some (.int (1 : Int32)) ∧ Fr n0 L) ∧ ReturnedEndW U o U' L room_1.cells room_1.slots) := by
  refine own_enterP (P := fun U => CHv Z consts_1 U.vm h0) (F := fun s o t => ∃ v L, o = .returned v ∧ (v = some (.int (1 : Int32)) ∧ Fr n0 L) ∧ ReturnedEndW s o t L room_1.cells room_1.slots) (plainFor_of_name pn_8) fun p e s m below meth c s₁ X0 hx hby hml hown hnm hZ e0 hre hlk hsh H0 => ?_
  have N0 := Fr.nil n0
  have pre0 : ∀ t, SF p e below s₁ (mkF m 0 #[iv p0s, iv p1s, iv p2s, iv p3s, .unset, .unset, .unset, .unset, .unset, .unset, .unset] []) t → SF p e below s₁ (entryFrame m #[(.int p0s), (.int p1s), (.int p2s), (.int p3s)] maxLocals) t := fun t k => castTop (ef_55 m p0s p1s p2s p3s) k
  obtain ⟨_, _, ⟨T1, L1, k1x, n1⟩, -, X1, ⟨Lc1, hQ1, l1, y1, z1⟩, st1⟩ := Jvm.LawKit.callS X0 hx (y := mq1) hown (mvT hZ (tw hw 0 rfl)) (mvT hZ (tw hw 1 rfl)) (mvT hZ (tw hw 2 rfl)) (mvT hZ (tw hw 3 rfl)) (by decide) (backOf (W := 0) (pck l Z a0 hw [] p0s h0 n0 Z0) hZ (tw hw 3 rfl) (tw hw 2 rfl) (by decide) (by decide)) (g := (mkF m 6 #[iv p0s, iv p1s, iv p2s, iv p3s, iv (p3s &&& (3 : Int32)), .unset, .unset, .unset, .unset, .unset, .unset] [(.int p0s)])) rfl (by rw [hml]; rfl) (argsL := [(.int p0s)]) (rest := []) (lenOf pd_29 rfl) rfl (Nat.le_of_eq rfl) (hb hby at_6) (fun _ _ => ⟨rfl, e0, (by decide : 0 + 0 ≤ _), (by decide : 0 + 0 ≤ _)⟩)
  dsimp only [Pt.U, Pt.locs, Pt.cells, Pt.slots] at X1 l1 y1 z1 st1 hQ1
  subst l1 y1 z1
  obtain ⟨c1q, rfl, hc1, N1q, e1⟩ := hQ1
  have N1 := Fr.app N0 N1q
  obtain ⟨_, _, ⟨T2, L2, k2x, n2⟩, -, X2, ⟨Lc2, hQ2, l2, y2, z2⟩, st2⟩ := Jvm.LawKit.callS X1 hx (y := mq1) hown (mvT hZ (tw hw 0 rfl)) (mvT hZ (tw hw 1 rfl)) (mvT hZ (tw hw 2 rfl)) (mvT hZ (tw hw 3 rfl)) (by decide) (backOf (W := 0) (pck l Z a0 hw [] p1s h0 n0 Z0) hZ (tw hw 3 rfl) (tw hw 2 rfl) (by decide) (by decide)) (g := (mkF m 12 #[iv p0s, iv p1s, iv p2s, iv p3s, iv (p3s &&& (3 : Int32)), iv c1q, .unset, .unset, .unset, .unset, .unset] [(.int p1s)])) rfl (by rw [hml]; rfl) (argsL := [(.int p1s)]) (rest := []) (lenOf pd_29 rfl) rfl (Nat.le_of_eq rfl) (hb hby at_12) (fun _ _ => ⟨rfl, e1, (by decide : 0 + 0 ≤ _), (by decide : 0 + 0 ≤ _)⟩)
  dsimp only [Pt.U, Pt.locs, Pt.cells, Pt.slots] at X2 l2 y2 z2 st2 hQ2
  subst l2 y2 z2
  obtain ⟨c2q, rfl, hc2, N2q, e2⟩ := hQ2
  have N2 := Fr.app N1 N2q
  obtain ⟨_, _, ⟨T3, L3, k3x, n3⟩, -, X3, ⟨Lc3, hQ3, l3, y3, z3⟩, st3⟩ := Jvm.LawKit.callS X2 hx (y := mq1) hown (mvT hZ (tw hw 0 rfl)) (mvT hZ (tw hw 1 rfl)) (mvT hZ (tw hw 2 rfl)) (mvT hZ (tw hw 3 rfl)) (by decide) (backOf (W := 0) (pck l Z a0 hw [] p2s h0 n0 Z0) hZ (tw hw 3 rfl) (tw hw 2 rfl) (by decide) (by decide)) (g := (mkF m 18 #[iv p0s, iv p1s, iv p2s, iv p3s, iv (p3s &&& (3 : Int32)), iv c1q, iv c2q, .unset, .unset, .unset, .unset] [(.int p2s)])) rfl (by rw [hml]; rfl) (argsL := [(.int p2s)]) (rest := []) (lenOf pd_29 rfl) rfl (Nat.le_of_eq rfl) (hb hby at_18) (fun _ _ => ⟨rfl, e2, (by decide : 0 + 0 ≤ _), (by decide : 0 + 0 ≤ _)⟩)
  dsimp only [Pt.U, Pt.locs, Pt.cells, Pt.slots] at X3 l3 y3 z3 st3 hQ3
  subst l3 y3 z3
  obtain ⟨c3q, rfl, hc3, N3q, e3⟩ := hQ3
  have N3 := Fr.app N2 N3q
  have hfin : FinW p e below (fun o t => ∃ v L, o = .returned v ∧ (v = some (.int (1 : Int32)) ∧ Fr n0 L) ∧ ReturnedEndW s o t L room_1.cells room_1.slots) (T3.setTop (mkF m 23 #[iv p0s, iv p1s, iv p2s, iv p3s, iv (p3s &&& (3 : Int32)), iv c1q, iv c2q, iv c3q, .unset, .unset, .unset] [])) := by
    rcases own_and3 p3s with q | q | q | q
    · rw [q]; exact lw0 (xc := c1q) (yc := c2q) (zc := c3q) X3 hx hZ hw hby hml hown hre hlk e3 N3 Z0 H0 S O hc1 hc2 hc3
    · rw [q]; exact lw1 (xc := c1q) (yc := c2q) (zc := c3q) X3 hx hZ hw hby hml hown hre hlk e3 N3 Z0 H0 S O hc1 hc2 hc3
    · rw [q]; exact lw2 (xc := c1q) (yc := c2q) (zc := c3q) X3 hx hZ hw hby hml hown hre hlk e3 N3 Z0 H0 S O hc1 hc2 hc3
    · rw [q]; exact lw3 (xc := c1q) (yc := c2q) (zc := c3q) X3 hx hZ hw hby hml hown hre hlk e3 N3 Z0 H0 S O hc1 hc2 hc3
  refine FinW.pre (fun t k => pre0 _ ?_) hfin
  show SF p e below s₁ (mkF m 0 #[iv p0s, iv p1s, iv p2s, iv p3s, .unset, .unset, .unset, .unset, .unset, .unset, .unset] []) _
  refine XS.iloadN X0.here hx rfl (hb hby at_0) rfl ?_
  refine XS.iconst X0.here hx rfl (hb hby at_1) ?_
  refine XS.iand X0.here hx rfl (hb hby at_2) rfl ?_
  refine XS.istore X0.here hx rfl (hb hby at_3) rfl (l' := #[iv p0s, iv p1s, iv p2s, iv p3s, iv (p3s &&& (3 : Int32)), .unset, .unset, .unset, .unset, .unset, .unset]) rfl ?_
  refine XS.iloadN X0.here hx rfl (hb hby at_5) rfl ?_
  refine st1 _ ?_
  refine XS.istore X1.here hx rfl (hb hby at_9) rfl (l' := #[iv p0s, iv p1s, iv p2s, iv p3s, iv (p3s &&& (3 : Int32)), iv c1q, .unset, .unset, .unset, .unset, .unset]) rfl ?_
  refine XS.iloadN X1.here hx rfl (hb hby at_11) rfl ?_
  refine st2 _ ?_
  refine XS.istore X2.here hx rfl (hb hby at_15) rfl (l' := #[iv p0s, iv p1s, iv p2s, iv p3s, iv (p3s &&& (3 : Int32)), iv c1q, iv c2q, .unset, .unset, .unset, .unset]) rfl ?_
  refine XS.iloadN X2.here hx rfl (hb hby at_17) rfl ?_
  refine st3 _ ?_
  refine XS.istore X3.here hx rfl (hb hby at_21) rfl (l' := #[iv p0s, iv p1s, iv p2s, iv p3s, iv (p3s &&& (3 : Int32)), iv c1q, iv c2q, iv c3q, .unset, .unset, .unset]) rfl ?_
  exact k
theorem comes_1 {Post : Tables → Env → Array Value → State → Outcome → State → Prop} (hpost : ∀ tb e args s v u, (limb_1_1.after args s (.returned v) u = true ∧ limb_1_2.after args s (.returned v) u = true ∧ True) → ReturnedEndW s (.returned v) u (Jvm.fieldLocs frame_1_writes args s ++ Jvm.arrayLocs frame_1_arrays args s ++ Jvm.staticLocs frame_1_statics s) 40 5376 → Post tb e args s (.returned v) u) :
    ArmFor flags0 classFile x code maxLocals ret World_1 tables_1 room_1 Calls_1 rest_1 Pre_1 Post := by
  intro l hfl _ _ p e ha hc hk s m args below hf hA hF happ hP
  obtain ⟨hcalls, hrest, hpre⟩ := hP
  obtain ⟨-, -, -, hnamed, -, -, -, hat⟩ := (Spec.applies_iff hf).mp happ
  obtain ⟨hg, hn⟩ := and_e (Cond.before_iff.mp (show (Jvm.Cond.and given_1 narrow_1).before args s = true from hpre))
  obtain ⟨gv0, gr0⟩ := and_e hg
  obtain ⟨gv1, gr1⟩ := and_e gr0
  obtain ⟨gv2, gr2⟩ := and_e gr1
  obtain ⟨gv3, gr3⟩ := and_e gr2
  have gv4 := gr3
  obtain ⟨av0, av1, av2, av3, rfl⟩ : ∃ av0 av1 av2 av3 : Value, args = #[av0, av1, av2, av3] := by
    have hs : args.size = 4 := by simpa [Cond.value, given_1] using gv0
    obtain ⟨L⟩ := args
    match L, hs with
    | [av0, av1, av2, av3], _ => exact ⟨av0, av1, av2, av3, rfl⟩
  have hw := fun d (hd : d ∈ tables_1) => atoms_spec (ws := Jvm.Cond.code x code maxLocals ret :: tables_1) hat d (List.mem_cons_of_mem _ hd)
  have hfit : Fit s := fun {y c} hc i hi => by
    obtain ⟨ha, rfl⟩ := Array.getElem?_eq_some_iff.mp hc
    have q := List.all_eq_true.mp ((Array.all_eq_true_iff_forall_mem.mp hF) _ (Array.getElem_mem ha)) i (List.mem_range.mpr hi)
    simpa [Array.getElem?_eq_getElem hi] using q
  obtain ⟨hsets, hown0⟩ := atoms_of _ (rest_1_c_eq ▸ (show rest_1_c.before _ s = true from hrest))
  obtain ⟨p0s, ei0⟩ := is_v gv1
  obtain rfl : av0 = (.int p0s) := Option.some.inj ei0
  obtain ⟨p1s, ei1⟩ := is_v gv2
  obtain rfl : av1 = (.int p1s) := Option.some.inj ei1
  obtain ⟨p2s, ei2⟩ := is_v gv3
  obtain rfl : av2 = (.int p2s) := Option.some.inj ei2
  obtain ⟨p3s, ei3⟩ := is_v gv4
  obtain rfl : av3 = (.int p3s) := Option.some.inj ei3
  obtain ⟨GC, evGC⟩ := is_v (Cond.before_iff.mp (hsets _ (List.mem_of_getElem? (i := 1) rfl)))
  have Sg0 : Sta s s.heap sq3 "COMPACT_STRINGS" "Z" (.int GC) := Sta.start evGC (Or.inl (hsets _ (List.mem_of_getElem? (i := 0) rfl)))
  obtain ⟨GF, evGF, rGF⟩ := isR_v (Cond.before_iff.mp (hsets _ (List.mem_of_getElem? (i := 8) rfl)))
  have Sg1 : Sta s s.heap sq6 "SIOOBE_FORMATTER" "Ljava/util/function/BiFunction;" GF := Sta.start evGF (Or.inl (hsets _ (List.mem_of_getElem? (i := 7) rfl)))
  have nzGC : ¬ (GC = (0 : Int32)) := gotF (Cond.eq_ints evGC (Term.int_eval (0))) (not_v (Cond.before_iff.mp (hsets _ (List.mem_of_getElem? (i := 2) rfl))))
  have ev5 := own_eqv (Cond.before_iff.mp (hsets _ (List.mem_of_getElem? (i := 12) rfl))) (Term.int_eval (1))
  have Sg4 : Sta s s.heap sq5 "$assertionsDisabled" "Z" (.int 1) := Sta.start ev5 (Or.inl (hsets _ (List.mem_of_getElem? (i := 11) rfl)))
  have ev7 := own_eqv (Cond.before_iff.mp (hsets _ (List.mem_of_getElem? (i := 15) rfl))) (Term.int_eval (0))
  have Sg5 : Sta s s.heap sq5 "HI_BYTE_SHIFT" "I" (.int 0) := Sta.start ev7 (Or.inl (hsets _ (List.mem_of_getElem? (i := 14) rfl)))
  have ev9 := own_eqv (Cond.before_iff.mp (hsets _ (List.mem_of_getElem? (i := 18) rfl))) (Term.int_eval (8))
  have Sg6 : Sta s s.heap sq5 "LO_BYTE_SHIFT" "I" (.int 8) := Sta.start ev9 (Or.inl (hsets _ (List.mem_of_getElem? (i := 17) rfl)))
  have O0 := Old.start s
  have hCH0 : CHv s consts_1 s.vm s.heap := CHv.start (own_EW hw) (fun p hp => hcalls.1 p hp) (hsets _ (List.mem_of_getElem? (i := 2) rfl)) (tw hw 23 rfl) (tw hw 5 rfl)
  obtain ⟨n, o, h1, h2, h3, _, L, rfl, ⟨rfl, N⟩, hq⟩ := rm0 l s _ hw tables_1 p0s p1s p2s p3s GC GF s.heap s.heap.size (Nat.le_refl _) O0 ⟨Sg0, Sg1, rGF, nzGC, Sg4, Sg5, Sg6⟩ p e ha hc hk s m _ below hf ((Spec.applies_iff_loose hf).mp happ).1 ⟨rfl, State.Warmed39.refl s, rfl, hCH0⟩ trivial
  refine ⟨n, _, h1, h2, h3, hpost _ _ _ _ _ _ ⟨Cond.after_iff.mpr rfl, Cond.after_iff.mpr (eq_i res_at (Term.int_eval (1)) rfl), trivial⟩ ⟨hq.1, hq.2.1, hq.2.2.1, (hq.2.2.2.sift fun y hy => Or.inr (N y hy)).mono (by decide) (by decide)⟩⟩
theorem main_1_1 : Claimed_1_1 := comes_1 fun _ _ _ _ _ _ h hF => ⟨h.1, hF⟩
theorem main_1_2 : Claimed_1_2 := comes_1 fun _ _ _ _ _ _ h hF => ⟨h.2.1, hF⟩
end Jvm.Pilot.@@N@@
namespace Jvm.Pilot.@@N@@
open Jvm Jvm.ClassFile Sem Op Lib Jvm.Free Jvm.Stand Jvm.Pilot.@@N@@.Jvm.D
/-! MADE BY PROGRAM (witnessworld.py) out of the Statement's table words and the real class files: 24 classes; the members and pool entries that the words name. The judged class is class 1, her method 3. -/
namespace start1
open Jvm.ClassFile
def u (s : String) : CpInfo := .utf8 (stringToUtf16 s)
/-- a pool by its gaps: so many unusable entries, then the entry; so many at the end -/
def gap : Nat → List CpInfo → List CpInfo
  | 0, r => r
  | n + 1, r => .unusable :: gap n r
def poolList (es : List (Nat × CpInfo)) (last : Nat) : List CpInfo := es.foldr (fun e r => gap e.1 (e.2 :: r)) (gap last [])
def pool (es : List (Nat × CpInfo)) (last : Nat) : Array CpInfo := ⟨poolList es last⟩
def fileOf (pool : Array CpInfo) (this : Nat) (attrs : Array Attribute := #[]) (ms : Array MethodInfo := #[]) (fl : Nat := 33) (sup : Nat := 0) (ifs : Array Nat := #[]) (fds : Array FieldInfo := #[]) : ClassFile where
  minorVersion := 0
  majorVersion := 65
  constantPool := pool
  accessFlags := fl
  thisClass := this
  superClass := sup
  interfaces := ifs
  fields := fds
  methods := ms
  attributes := attrs
def plain (name : String) (sup : Option ClassId) : Class where
  name := name
  kind := .ordinary
  loader := none
  accessFlags := 33
  super := sup
  interfaces := #[]
  cf := none
  fields := #[]
  methods := #[]
  instanceTypes := #[]
  staticTypes := #[]
  resolved := #[]
  callSites := []
  init := .initialized
  statics := none
  mirror := none

def pool0 : Array CpInfo := pool [(5, u "<init>"), (0, u "()V"), (1, .class_ 10), (1, u "java/lang/Object"), (85, u "clone"), (0, u "()Ljava/lang/Object;")] 26

def k0c0 : Code := { maxStack := 0, maxLocals := 1, code := object_method_1_code, exceptionTable := #[], attributes := #[] }
def k0m0 : Method := { name := "<init>", desc := "()V", sig := { parameters := [], returnType := none }, accessFlags := 1, code := some k0c0 }
def k0m1 : Method := { name := "clone", desc := "()Ljava/lang/Object;", sig := { parameters := [], returnType := some (.object "java/lang/Object") }, accessFlags := 260, code := none }
/-- java/lang/Object -/
def k0 : Class := { plain "java/lang/Object" none with
  accessFlags := 33
  interfaces := #[]
  cf := some (fileOf pool0 8 #[] #[{ accessFlags := 1, nameIndex := 5, descriptorIndex := 6, attributes := #[] }, { accessFlags := 260, nameIndex := 96, descriptorIndex := 97, attributes := #[] }] 33 0 #[] #[])
  fields := #[]
  methods := #[k0m0, k0m1]
  instanceTypes := #[]
  staticTypes := #[]
  resolved := Array.replicate 124 none
  statics := none }

def pool1 : Array CpInfo := pool [(2, .class_ 4), (1, u "java/lang/Object"), (0, u "<init>"), (0, u "()V"), (0, .methodref 8 9), (0, .class_ 10), (0, .nameAndType 11 12), (0, u "java/lang/String"), (0, u "length"), (0, u "()I"), (0, .methodref 8 14), (0, .nameAndType 15 16), (0, u "charAt"), (0, u "(I)C"), (0, .methodref 18 19), (0, .class_ 20), (0, .nameAndType 21 16), (0, u "com/example/qedbox/qedbox/cli/TupleLinesEscapePinLaw"), (0, u "pick"), (0, .methodref 8 23), (0, .nameAndType 5 24), (0, u "([C)V"), (0, .methodref 26 27), (0, .class_ 28), (0, .nameAndType 29 30), (0, u "com/example/qedbox/qedbox/cli/TupleLines"), (0, u "escape"), (0, u "(Ljava/lang/String;)Ljava/lang/String;"), (0, .methodref 18 32), (0, .nameAndType 33 34), (0, u "step"), (0, u "(Ljava/lang/String;IC)I"), (3, u "law"), (0, u "(IIII)Z")] 2

def k1m0 : Method := { name := "<init>", desc := "()V", sig := { parameters := [], returnType := none }, accessFlags := 2, code := none }
def k1c1 : Code := { maxStack := 2, maxLocals := 2, code := method_2_code, exceptionTable := #[], attributes := #[] }
def k1m1 : Method := { name := "pick", desc := "(I)C", sig := { parameters := [.int], returnType := some .char }, accessFlags := 10, code := some k1c1 }
def k1c2 : Code := { maxStack := 3, maxLocals := 4, code := method_3_code, exceptionTable := #[], attributes := #[] }
def k1m2 : Method := { name := "step", desc := "(Ljava/lang/String;IC)I", sig := { parameters := [(.object "java/lang/String"), .int, .char], returnType := some .int }, accessFlags := 10, code := some k1c2 }
def k1c3 : Code := { maxStack := 6, maxLocals := 11, code := code, exceptionTable := #[], attributes := #[] }
def k1m3 : Method := { name := "law", desc := "(IIII)Z", sig := { parameters := [.int, .int, .int, .int], returnType := some .boolean }, accessFlags := 9, code := some k1c3 }
/-- com/example/qedbox/qedbox/cli/TupleLinesEscapePinLaw -/
def k1 : Class := { plain "com/example/qedbox/qedbox/cli/TupleLinesEscapePinLaw" (some 0) with
  accessFlags := 49
  interfaces := #[]
  cf := some (fileOf pool1 18 #[] #[{ accessFlags := 2, nameIndex := 5, descriptorIndex := 6, attributes := #[] }, { accessFlags := 10, nameIndex := 21, descriptorIndex := 16, attributes := #[] }, { accessFlags := 10, nameIndex := 33, descriptorIndex := 34, attributes := #[] }, { accessFlags := 9, nameIndex := 38, descriptorIndex := 39, attributes := #[] }] 49 2 #[] #[])
  fields := #[]
  methods := #[k1m0, k1m1, k1m2, k1m3]
  instanceTypes := #[]
  staticTypes := #[]
  resolved := Array.replicate 42 none
  statics := none }

def pool2 : Array CpInfo := pool [(1, .class_ 2), (0, u "java/io/Serializable"), (0, .class_ 4), (0, u "java/lang/Object")] 2

/-- java/io/Serializable -/
def k2 : Class := { plain "java/io/Serializable" (some 0) with
  accessFlags := 1537
  interfaces := #[]
  cf := some (fileOf pool2 1 #[] #[] 1537 3 #[] #[])
  fields := #[]
  methods := #[]
  instanceTypes := #[]
  staticTypes := #[]
  resolved := Array.replicate 7 none
  statics := none }

def pool3 : Array CpInfo := pool [(1, .class_ 2), (0, u "java/lang/Comparable"), (0, .class_ 4), (0, u "java/lang/Object")] 7

/-- java/lang/Comparable -/
def k3 : Class := { plain "java/lang/Comparable" (some 0) with
  accessFlags := 1537
  interfaces := #[]
  cf := some (fileOf pool3 1 #[] #[] 1537 3 #[] #[])
  fields := #[]
  methods := #[]
  instanceTypes := #[]
  staticTypes := #[]
  resolved := Array.replicate 12 none
  statics := none }

def pool4 : Array CpInfo := pool [(2, .class_ 4), (1, u "java/lang/CharSequence"), (42, .class_ 48), (0, u "java/lang/CharSequence$1CodePointIterator"), (10, .class_ 60), (0, u "java/lang/CharSequence$1CharIterator"), (5, .class_ 67), (0, u "java/lang/Object")] 63

/-- java/lang/CharSequence -/
def k4 : Class := { plain "java/lang/CharSequence" (some 0) with
  accessFlags := 1537
  interfaces := #[]
  cf := some (fileOf pool4 2 #[.nestMembers #[47, 59]] #[] 1537 66 #[] #[])
  fields := #[]
  methods := #[]
  instanceTypes := #[]
  staticTypes := #[]
  resolved := Array.replicate 131 none
  statics := none }

def pool5 : Array CpInfo := pool [(1, .class_ 2), (0, u "java/lang/constant/Constable"), (0, .class_ 4), (0, u "java/lang/Object")] 6

/-- java/lang/constant/Constable -/
def k5 : Class := { plain "java/lang/constant/Constable" (some 0) with
  accessFlags := 1537
  interfaces := #[]
  cf := some (fileOf pool5 1 #[] #[] 1537 3 #[] #[])
  fields := #[]
  methods := #[]
  instanceTypes := #[]
  staticTypes := #[]
  resolved := Array.replicate 11 none
  statics := none }

def pool6 : Array CpInfo := pool [(1, .class_ 2), (0, u "java/lang/constant/ConstantDesc"), (0, .class_ 4), (0, u "java/lang/Object")] 32

/-- java/lang/constant/ConstantDesc -/
def k6 : Class := { plain "java/lang/constant/ConstantDesc" (some 0) with
  accessFlags := 1537
  interfaces := #[]
  cf := some (fileOf pool6 1 #[] #[] 1537 3 #[] #[])
  fields := #[]
  methods := #[]
  instanceTypes := #[]
  staticTypes := #[]
  resolved := Array.replicate 37 none
  statics := none }

def pool7 : Array CpInfo := pool [(1, .methodref 2 3), (0, .class_ 4), (0, .nameAndType 5 6), (0, u "java/lang/Object"), (0, u "<init>"), (0, u "()V"), (0, .string 8), (0, u ""), (0, .fieldref 10 11), (0, .class_ 12), (0, .nameAndType 13 14), (0, u "java/lang/String"), (0, u "value"), (0, u "[B"), (0, .fieldref 10 16), (0, .nameAndType 17 18), (0, u "coder"), (0, u "B"), (2, u "hash"), (0, u "I"), (2, u "hashIsZero"), (0, u "Z"), (0, .methodref 10 28), (0, .nameAndType 5 29), (0, u "([CIILjava/lang/Void;)V"), (6, u "checkBoundsOffCount"), (0, u "(III)I"), (0, .fieldref 10 39), (0, .nameAndType 40 26), (0, u "COMPACT_STRINGS"), (1, .class_ 44), (1, u "java/lang/StringUTF16"), (0, u "compress"), (1, .methodref 42 48), (0, .nameAndType 49 50), (0, u "coderFromArrayLen"), (0, u "([BI)B"), (3, .methodref 55 56), (0, .class_ 57), (0, .nameAndType 58 59), (0, u "java/util/Arrays"), (0, u "copyOfRange"), (0, u "([BII)[B"), (46, .methodref 107 108), (0, .class_ 109), (0, .nameAndType 110 111), (0, u "java/lang/StringLatin1"), (0, u "inflate"), (0, u "([BI[BII)V"), (30, u "()Z"), (34, .methodref 42 178), (0, .nameAndType 45 179), (0, u "([CII)[B"), (13, .class_ 195), (1, u "java/lang/System"), (16, .methodref 193 213), (0, .nameAndType 214 215), (0, u "arraycopy"), (0, u "(Ljava/lang/Object;ILjava/lang/Object;II)V"), (118, u "()I"), (0, .methodref 10 336), (0, .nameAndType 17 337), (0, u "()B"), (2, u "()[B"), (22, u "([BI)C"), (27, u "(II)V"), (35, u "(I)C"), (61, .methodref 10 490), (0, .nameAndType 5 491), (0, u "(Ljava/lang/AbstractStringBuilder;Ljava/lang/Void;)V"), (0, .methodref 10 493), (0, .nameAndType 494 142), (0, u "isLatin1"), (0, .methodref 107 496), (0, .nameAndType 497 363), (0, u "charAt"), (0, .methodref 42 496), (2, u "checkIndex"), (4, .nameAndType 507 334), (0, u "length"), (24, u "getBytes"), (16, .methodref 550 506), (0, .class_ 551), (0, u "java/lang/AbstractStringBuilder"), (0, .methodref 550 553), (0, .nameAndType 554 340), (0, u "getValue"), (20, .class_ 576), (0, u "java/lang/CharSequence"), (22, u "CASE_INSENSITIVE_ORDER"), (0, u "Ljava/util/Comparator;"), (220, u "([BIB)V"), (188, u "([C)V"), (36, .methodref 550 493), (0, .fieldref 550 1049), (0, .nameAndType 1050 26), (0, u "maybeLatin1"), (2, .fieldref 1054 1055), (0, .class_ 1056), (0, .nameAndType 1057 1058), (0, u "jdk/internal/util/Preconditions"), (0, u "SIOOBE_FORMATTER"), (0, u "Ljava/util/function/BiFunction;"), (0, .methodref 1054 1060), (0, .nameAndType 501 1061), (0, u "(IILjava/util/function/BiFunction;)I"), (2, u "(IIILjava/util/function/BiFunction;)I"), (0, .methodref 1054 1066), (0, .nameAndType 1067 1064), (0, u "checkFromIndexSize"), (33, u "serialPersistentFields"), (0, u "[Ljava/io/ObjectStreamField;"), (0, .class_ 1104), (0, u "java/lang/String$CaseInsensitiveComparator"), (1, .class_ 1107), (0, u "java/io/Serializable"), (0, .class_ 1109), (0, u "java/lang/Comparable"), (0, .class_ 1111), (0, u "java/lang/constant/Constable"), (0, .class_ 1113), (0, u "java/lang/constant/ConstantDesc"), (2, u "serialVersionUID"), (0, u "J"), (3, u "REPL"), (0, u "C"), (2, u "LATIN1"), (1, u "UTF16"), (105, u "(Ljava/lang/StringBuilder;)V")] 217

def k7m0 : Method := { name := "<init>", desc := "()V", sig := { parameters := [], returnType := none }, accessFlags := 1, code := none }
def k7c1 : Code := { maxStack := 5, maxLocals := 2, code := jdk_42_method_3_code, exceptionTable := #[], attributes := #[] }
def k7m1 : Method := { name := "<init>", desc := "([C)V", sig := { parameters := [(.array .char)], returnType := none }, accessFlags := 1, code := some k7c1 }
def k7c2 : Code := { maxStack := 3, maxLocals := 2, code := jdk_42_method_53_code, exceptionTable := #[], attributes := #[] }
def k7m2 : Method := { name := "<init>", desc := "(Ljava/lang/StringBuilder;)V", sig := { parameters := [(.object "java/lang/StringBuilder")], returnType := none }, accessFlags := 1, code := some k7c2 }
def k7c3 : Code := { maxStack := 2, maxLocals := 1, code := jdk_42_method_54_code, exceptionTable := #[], attributes := #[] }
def k7m3 : Method := { name := "length", desc := "()I", sig := { parameters := [], returnType := some .int }, accessFlags := 1, code := some k7c3 }
def k7c4 : Code := { maxStack := 2, maxLocals := 2, code := jdk_42_method_56_code, exceptionTable := #[], attributes := #[] }
def k7m4 : Method := { name := "charAt", desc := "(I)C", sig := { parameters := [.int], returnType := some .char }, accessFlags := 1, code := some k7c4 }
def k7c5 : Code := { maxStack := 5, maxLocals := 4, code := jdk_42_method_147_code, exceptionTable := #[], attributes := #[] }
def k7m5 : Method := { name := "getBytes", desc := "([BIB)V", sig := { parameters := [(.array .byte), .int, .byte], returnType := none }, accessFlags := 0, code := some k7c5 }
def k7c6 : Code := { maxStack := 4, maxLocals := 6, code := jdk_42_method_149_code, exceptionTable := #[], attributes := #[] }
def k7m6 : Method := { name := "<init>", desc := "([CIILjava/lang/Void;)V", sig := { parameters := [(.array .char), .int, .int, (.object "java/lang/Void")], returnType := none }, accessFlags := 2, code := some k7c6 }
def k7c7 : Code := { maxStack := 5, maxLocals := 5, code := jdk_42_method_150_code, exceptionTable := #[], attributes := #[] }
def k7m7 : Method := { name := "<init>", desc := "(Ljava/lang/AbstractStringBuilder;Ljava/lang/Void;)V", sig := { parameters := [(.object "java/lang/AbstractStringBuilder"), (.object "java/lang/Void")], returnType := none }, accessFlags := 0, code := some k7c7 }
def k7c8 : Code := { maxStack := 1, maxLocals := 1, code := jdk_42_method_152_code, exceptionTable := #[], attributes := #[] }
def k7m8 : Method := { name := "coder", desc := "()B", sig := { parameters := [], returnType := some .byte }, accessFlags := 0, code := some k7c8 }
def k7c9 : Code := { maxStack := 1, maxLocals := 1, code := jdk_42_method_154_code, exceptionTable := #[], attributes := #[] }
def k7m9 : Method := { name := "isLatin1", desc := "()Z", sig := { parameters := [], returnType := some .boolean }, accessFlags := 0, code := some k7c9 }
def k7c10 : Code := { maxStack := 3, maxLocals := 2, code := jdk_42_method_155_code, exceptionTable := #[], attributes := #[] }
def k7m10 : Method := { name := "checkIndex", desc := "(II)V", sig := { parameters := [.int, .int], returnType := none }, accessFlags := 8, code := some k7c10 }
def k7c11 : Code := { maxStack := 4, maxLocals := 3, code := jdk_42_method_157_code, exceptionTable := #[], attributes := #[] }
def k7m11 : Method := { name := "checkBoundsOffCount", desc := "(III)I", sig := { parameters := [.int, .int, .int], returnType := some .int }, accessFlags := 8, code := some k7c11 }
/-- java/lang/String -/
def k7 : Class := { plain "java/lang/String" (some 0) with
  accessFlags := 49
  interfaces := #[2, 3, 4, 5, 6]
  cf := some (fileOf pool7 10 #[.nestMembers #[1103]] #[{ accessFlags := 1, nameIndex := 5, descriptorIndex := 6, attributes := #[] }, { accessFlags := 1, nameIndex := 5, descriptorIndex := 1010, attributes := #[] }, { accessFlags := 1, nameIndex := 5, descriptorIndex := 1233, attributes := #[] }, { accessFlags := 1, nameIndex := 507, descriptorIndex := 334, attributes := #[] }, { accessFlags := 1, nameIndex := 497, descriptorIndex := 427, attributes := #[] }, { accessFlags := 0, nameIndex := 532, descriptorIndex := 821, attributes := #[] }, { accessFlags := 2, nameIndex := 5, descriptorIndex := 29, attributes := #[] }, { accessFlags := 0, nameIndex := 5, descriptorIndex := 491, attributes := #[] }, { accessFlags := 0, nameIndex := 17, descriptorIndex := 337, attributes := #[] }, { accessFlags := 0, nameIndex := 494, descriptorIndex := 142, attributes := #[] }, { accessFlags := 8, nameIndex := 501, descriptorIndex := 391, attributes := #[] }, { accessFlags := 8, nameIndex := 36, descriptorIndex := 37, attributes := #[] }] 49 2 #[1106, 1108, 575, 1110, 1112] #[{ accessFlags := 18, nameIndex := 13, descriptorIndex := 14, attributes := #[] }, { accessFlags := 18, nameIndex := 17, descriptorIndex := 18, attributes := #[] }, { accessFlags := 2, nameIndex := 21, descriptorIndex := 22, attributes := #[] }, { accessFlags := 2, nameIndex := 25, descriptorIndex := 26, attributes := #[] }, { accessFlags := 26, nameIndex := 1116, descriptorIndex := 1117, attributes := #[] }, { accessFlags := 24, nameIndex := 40, descriptorIndex := 26, attributes := #[] }, { accessFlags := 26, nameIndex := 1101, descriptorIndex := 1102, attributes := #[] }, { accessFlags := 26, nameIndex := 1121, descriptorIndex := 1122, attributes := #[] }, { accessFlags := 25, nameIndex := 599, descriptorIndex := 600, attributes := #[] }, { accessFlags := 24, nameIndex := 1125, descriptorIndex := 18, attributes := #[] }, { accessFlags := 24, nameIndex := 1127, descriptorIndex := 18, attributes := #[] }])
  fields := #[{ name := "value", type := (.array .byte), accessFlags := 18, slot := 0, constantValue := 0 }, { name := "coder", type := .byte, accessFlags := 18, slot := 1, constantValue := 0 }, { name := "hash", type := .int, accessFlags := 2, slot := 2, constantValue := 0 }, { name := "hashIsZero", type := .boolean, accessFlags := 2, slot := 3, constantValue := 0 }, { name := "serialVersionUID", type := .long, accessFlags := 26, slot := 0, constantValue := 0 }, { name := "COMPACT_STRINGS", type := .boolean, accessFlags := 24, slot := 1, constantValue := 0 }, { name := "serialPersistentFields", type := (.array (.object "java/io/ObjectStreamField")), accessFlags := 26, slot := 2, constantValue := 0 }, { name := "REPL", type := .char, accessFlags := 26, slot := 3, constantValue := 0 }, { name := "CASE_INSENSITIVE_ORDER", type := (.object "java/util/Comparator"), accessFlags := 25, slot := 4, constantValue := 0 }, { name := "LATIN1", type := .byte, accessFlags := 24, slot := 5, constantValue := 0 }, { name := "UTF16", type := .byte, accessFlags := 24, slot := 6, constantValue := 0 }]
  methods := #[k7m0, k7m1, k7m2, k7m3, k7m4, k7m5, k7m6, k7m7, k7m8, k7m9, k7m10, k7m11]
  instanceTypes := #[(.array .byte), .byte, .int, .boolean]
  staticTypes := #[.long, .boolean, (.array (.object "java/io/ObjectStreamField")), .char, (.object "java/util/Comparator"), .byte, .byte]
  resolved := Array.replicate 1451 none
  statics := some 0 }

def pool8 : Array CpInfo := pool [(3, .class_ 4), (0, u "java/lang/String"), (1, .class_ 8), (1, u "java/lang/Object"), (0, u "<init>"), (0, u "()V"), (0, .methodref 12 13), (0, .class_ 14), (0, .nameAndType 15 16), (0, u "java/lang/StringUTF16"), (0, u "newBytesLength"), (0, u "(I)I"), (3, .integer 1073741823), (23, .fieldref 12 45), (0, .nameAndType 46 47), (0, u "$assertionsDisabled"), (0, u "Z"), (0, .methodref 12 49), (0, .nameAndType 50 51), (0, u "length"), (0, u "([B)I"), (7, .fieldref 12 60), (0, .nameAndType 61 62), (0, u "HI_BYTE_SHIFT"), (0, u "I"), (0, .fieldref 12 64), (0, .nameAndType 65 62), (0, u "LO_BYTE_SHIFT"), (1, .methodref 12 68), (0, .nameAndType 69 70), (0, u "checkIndex"), (0, u "(I[B)V"), (0, .methodref 12 72), (0, .nameAndType 73 74), (0, u "getChar"), (0, u "([BI)C"), (24, u "(II[B)V"), (7, .methodref 12 108), (0, .nameAndType 109 110), (0, u "newBytesFor"), (0, u "(I)[B"), (0, .methodref 12 112), (0, .nameAndType 113 114), (0, u "putChar"), (0, u "([BII)V"), (0, .methodref 12 116), (0, .nameAndType 117 118), (0, u "compress"), (0, u "([CI[BII)I"), (0, .methodref 12 120), (0, .nameAndType 121 122), (0, u "toBytes"), (0, u "([CII)[B"), (17, u "inflate"), (0, u "([BI[BII)V"), (31, .methodref 12 174), (0, .nameAndType 175 99), (0, u "checkBoundsOffCount"), (85, u "coderFromArrayLen"), (0, u "([BI)B"), (18, u "(III)I"), (87, .class_ 371), (1, u "java/lang/StringUTF16$LinesSpliterator"), (20, u "charAt"), (21, .methodref 3 415), (0, .nameAndType 69 416), (0, u "(II)V"), (2, .methodref 3 420), (0, .nameAndType 175 281), (9, u "MAX_LENGTH"), (155, u "putCharSB"), (40, .class_ 628), (0, u "java/lang/StringUTF16$CodePointsSpliterator"), (0, .class_ 630), (0, u "java/lang/StringUTF16$CharsSpliterator")] 4

def k8m0 : Method := { name := "<init>", desc := "()V", sig := { parameters := [], returnType := none }, accessFlags := 0, code := none }
def k8c1 : Code := { maxStack := 1, maxLocals := 1, code := jdk_52_method_2_code, exceptionTable := #[], attributes := #[] }
def k8m1 : Method := { name := "newBytesFor", desc := "(I)[B", sig := { parameters := [.int], returnType := some (.array .byte) }, accessFlags := 9, code := some k8c1 }
def k8c2 : Code := { maxStack := 4, maxLocals := 1, code := jdk_52_method_3_code, exceptionTable := #[], attributes := #[] }
def k8m2 : Method := { name := "newBytesLength", desc := "(I)I", sig := { parameters := [.int], returnType := some .int }, accessFlags := 9, code := some k8c2 }
def k8c3 : Code := { maxStack := 4, maxLocals := 3, code := jdk_52_method_4_code, exceptionTable := #[], attributes := #[] }
def k8m3 : Method := { name := "putChar", desc := "([BII)V", sig := { parameters := [(.array .byte), .int, .int], returnType := none }, accessFlags := 8, code := some k8c3 }
def k8c4 : Code := { maxStack := 3, maxLocals := 2, code := jdk_52_method_5_code, exceptionTable := #[], attributes := #[] }
def k8m4 : Method := { name := "getChar", desc := "([BI)C", sig := { parameters := [(.array .byte), .int], returnType := some .char }, accessFlags := 8, code := some k8c4 }
def k8c5 : Code := { maxStack := 2, maxLocals := 1, code := jdk_52_method_6_code, exceptionTable := #[], attributes := #[] }
def k8m5 : Method := { name := "length", desc := "([B)I", sig := { parameters := [(.array .byte)], returnType := some .int }, accessFlags := 9, code := some k8c5 }
def k8c6 : Code := { maxStack := 4, maxLocals := 5, code := jdk_52_method_14_code, exceptionTable := #[], attributes := #[] }
def k8m6 : Method := { name := "toBytes", desc := "([CII)[B", sig := { parameters := [(.array .char), .int, .int], returnType := some (.array .byte) }, accessFlags := 9, code := some k8c6 }
def k8c7 : Code := { maxStack := 2, maxLocals := 2, code := jdk_52_method_15_code, exceptionTable := #[], attributes := #[] }
def k8m7 : Method := { name := "coderFromArrayLen", desc := "([BI)B", sig := { parameters := [(.array .byte), .int], returnType := some .byte }, accessFlags := 8, code := some k8c7 }
def k8c8 : Code := { maxStack := 5, maxLocals := 6, code := jdk_52_method_16_code, exceptionTable := #[], attributes := #[] }
def k8m8 : Method := { name := "compress", desc := "([CII)[B", sig := { parameters := [(.array .char), .int, .int], returnType := some (.array .byte) }, accessFlags := 9, code := some k8c8 }
def k8c9 : Code := { maxStack := 3, maxLocals := 7, code := jdk_52_method_21_code, exceptionTable := #[], attributes := #[] }
def k8m9 : Method := { name := "compress", desc := "([CI[BII)I", sig := { parameters := [(.array .char), .int, (.array .byte), .int, .int], returnType := some .int }, accessFlags := 9, code := some k8c9 }
def k8c10 : Code := { maxStack := 3, maxLocals := 3, code := jdk_52_method_71_code, exceptionTable := #[], attributes := #[] }
def k8m10 : Method := { name := "putCharSB", desc := "([BII)V", sig := { parameters := [(.array .byte), .int, .int], returnType := none }, accessFlags := 9, code := some k8c10 }
def k8c11 : Code := { maxStack := 2, maxLocals := 2, code := jdk_52_method_83_code, exceptionTable := #[], attributes := #[] }
def k8m11 : Method := { name := "charAt", desc := "([BI)C", sig := { parameters := [(.array .byte), .int], returnType := some .char }, accessFlags := 9, code := some k8c11 }
def k8c12 : Code := { maxStack := 4, maxLocals := 6, code := jdk_52_method_86_code, exceptionTable := #[], attributes := #[] }
def k8m12 : Method := { name := "inflate", desc := "([BI[BII)V", sig := { parameters := [(.array .byte), .int, (.array .byte), .int, .int], returnType := none }, accessFlags := 9, code := some k8c12 }
def k8c13 : Code := { maxStack := 2, maxLocals := 2, code := jdk_52_method_91_code, exceptionTable := #[], attributes := #[] }
def k8m13 : Method := { name := "checkIndex", desc := "(I[B)V", sig := { parameters := [.int, (.array .byte)], returnType := none }, accessFlags := 9, code := some k8c13 }
def k8c14 : Code := { maxStack := 3, maxLocals := 3, code := jdk_52_method_94_code, exceptionTable := #[], attributes := #[] }
def k8m14 : Method := { name := "checkBoundsOffCount", desc := "(II[B)V", sig := { parameters := [.int, .int, (.array .byte)], returnType := none }, accessFlags := 9, code := some k8c14 }
/-- java/lang/StringUTF16 -/
def k8 : Class := { plain "java/lang/StringUTF16" (some 0) with
  accessFlags := 48
  interfaces := #[]
  cf := some (fileOf pool8 12 #[.nestMembers #[627, 629, 369]] #[{ accessFlags := 0, nameIndex := 9, descriptorIndex := 10, attributes := #[] }, { accessFlags := 9, nameIndex := 109, descriptorIndex := 110, attributes := #[] }, { accessFlags := 9, nameIndex := 15, descriptorIndex := 16, attributes := #[] }, { accessFlags := 8, nameIndex := 113, descriptorIndex := 114, attributes := #[] }, { accessFlags := 8, nameIndex := 73, descriptorIndex := 74, attributes := #[] }, { accessFlags := 9, nameIndex := 50, descriptorIndex := 51, attributes := #[] }, { accessFlags := 9, nameIndex := 121, descriptorIndex := 122, attributes := #[] }, { accessFlags := 8, nameIndex := 261, descriptorIndex := 262, attributes := #[] }, { accessFlags := 9, nameIndex := 117, descriptorIndex := 122, attributes := #[] }, { accessFlags := 9, nameIndex := 117, descriptorIndex := 118, attributes := #[] }, { accessFlags := 9, nameIndex := 586, descriptorIndex := 114, attributes := #[] }, { accessFlags := 9, nameIndex := 392, descriptorIndex := 74, attributes := #[] }, { accessFlags := 9, nameIndex := 140, descriptorIndex := 141, attributes := #[] }, { accessFlags := 9, nameIndex := 69, descriptorIndex := 70, attributes := #[] }, { accessFlags := 9, nameIndex := 175, descriptorIndex := 99, attributes := #[] }] 48 6 #[] #[{ accessFlags := 26, nameIndex := 61, descriptorIndex := 62, attributes := #[] }, { accessFlags := 26, nameIndex := 65, descriptorIndex := 62, attributes := #[] }, { accessFlags := 24, nameIndex := 430, descriptorIndex := 62, attributes := #[] }, { accessFlags := 4120, nameIndex := 46, descriptorIndex := 47, attributes := #[] }])
  fields := #[{ name := "HI_BYTE_SHIFT", type := .int, accessFlags := 26, slot := 0, constantValue := 0 }, { name := "LO_BYTE_SHIFT", type := .int, accessFlags := 26, slot := 1, constantValue := 0 }, { name := "MAX_LENGTH", type := .int, accessFlags := 24, slot := 2, constantValue := 0 }, { name := "$assertionsDisabled", type := .boolean, accessFlags := 4120, slot := 3, constantValue := 0 }]
  methods := #[k8m0, k8m1, k8m2, k8m3, k8m4, k8m5, k8m6, k8m7, k8m8, k8m9, k8m10, k8m11, k8m12, k8m13, k8m14]
  instanceTypes := #[]
  staticTypes := #[.int, .int, .int, .boolean]
  resolved := Array.replicate 635 none
  statics := some 1 }

def pool9 : Array CpInfo := pool [(2, .class_ 4), (1, u "java/lang/Object"), (0, u "<init>"), (0, u "()V"), (7, u "()I"), (1, .nameAndType 5 17), (0, u "(I)V"), (17, .class_ 37), (1, u "com/example/qedbox/qedbox/cli/TupleLines"), (9, .class_ 49), (1, u "java/lang/String"), (27, .class_ 78), (0, u "java/lang/StringBuilder"), (9, u "()Ljava/lang/String;"), (7, .methodref 77 97), (0, .nameAndType 98 99), (0, u "append"), (0, u "(C)Ljava/lang/StringBuilder;"), (2, u "escape"), (0, u "(Ljava/lang/String;)Ljava/lang/String;"), (0, .methodref 77 105), (0, .nameAndType 98 106), (0, u "(Ljava/lang/String;)Ljava/lang/StringBuilder;"), (0, .methodref 77 108), (0, .nameAndType 109 88), (0, u "toString"), (0, .methodref 47 111), (0, .nameAndType 112 14), (0, u "length"), (0, .methodref 77 16), (0, .methodref 47 115), (0, .nameAndType 116 117), (0, u "charAt"), (0, u "(I)C"), (0, .string 119), (0, u "\\\\"), (0, .string 121), (0, u "\\t"), (0, .string 123), (0, u "\\n"), (0, .string 125), (0, u "\\r")] 33

def k9m0 : Method := { name := "<init>", desc := "()V", sig := { parameters := [], returnType := none }, accessFlags := 2, code := none }
def k9c1 : Code := { maxStack := 3, maxLocals := 4, code := prog_41_method_4_code, exceptionTable := #[], attributes := #[] }
def k9m1 : Method := { name := "escape", desc := "(Ljava/lang/String;)Ljava/lang/String;", sig := { parameters := [(.object "java/lang/String")], returnType := some (.object "java/lang/String") }, accessFlags := 8, code := some k9c1 }
/-- com/example/qedbox/qedbox/cli/TupleLines -/
def k9 : Class := { plain "com/example/qedbox/qedbox/cli/TupleLines" (some 0) with
  accessFlags := 48
  interfaces := #[]
  cf := some (fileOf pool9 35 #[] #[{ accessFlags := 2, nameIndex := 5, descriptorIndex := 6, attributes := #[] }, { accessFlags := 8, nameIndex := 102, descriptorIndex := 103, attributes := #[] }] 48 2 #[] #[])
  fields := #[]
  methods := #[k9m0, k9m1]
  instanceTypes := #[]
  staticTypes := #[]
  resolved := Array.replicate 159 none
  statics := none }

def pool10 : Array CpInfo := pool [(1, .class_ 2), (0, u "java/lang/Appendable"), (0, .class_ 4), (0, u "java/lang/Object")] 9

/-- java/lang/Appendable -/
def k10 : Class := { plain "java/lang/Appendable" (some 0) with
  accessFlags := 1537
  interfaces := #[]
  cf := some (fileOf pool10 1 #[] #[] 1537 3 #[] #[])
  fields := #[]
  methods := #[]
  instanceTypes := #[]
  staticTypes := #[]
  resolved := Array.replicate 14 none
  statics := none }

def pool11 : Array CpInfo := pool [(1, .class_ 2), (0, u "java/lang/String"), (0, .methodref 4 5), (0, .class_ 6), (0, .nameAndType 7 8), (0, u "java/lang/Object"), (0, u "<init>"), (0, u "()V"), (1, .class_ 12), (1, u "java/lang/AbstractStringBuilder"), (0, u "EMPTYVALUE"), (0, u "[B"), (0, .fieldref 10 16), (0, .nameAndType 17 14), (0, u "value"), (0, .fieldref 1 19), (0, .nameAndType 20 21), (0, u "COMPACT_STRINGS"), (0, u "Z"), (0, .fieldref 10 23), (0, .nameAndType 24 25), (0, u "coder"), (0, u "B"), (0, .methodref 27 28), (0, .class_ 29), (0, .nameAndType 30 31), (0, u "java/lang/StringUTF16"), (0, u "newBytesFor"), (0, u "(I)[B"), (0, .methodref 1 33), (0, .nameAndType 34 35), (0, u "length"), (0, u "()I"), (3, .integer 2147483647), (0, .methodref 1 41), (0, .nameAndType 24 42), (0, u "()B"), (2, u "append"), (0, u "(Ljava/lang/String;)Ljava/lang/AbstractStringBuilder;"), (1, .class_ 49), (0, u "java/lang/CharSequence"), (19, u "(Ljava/lang/String;)V"), (5, u "maybeLatin1"), (3, .fieldref 10 80), (0, .nameAndType 81 82), (0, u "count"), (0, u "I"), (0, .methodref 10 84), (0, .nameAndType 85 86), (0, u "isLatin1"), (0, u "()Z"), (1, .class_ 90), (1, u "java/lang/StringLatin1"), (9, .methodref 10 101), (0, .nameAndType 102 103), (0, u "ensureCapacityInternal"), (0, u "(I)V"), (0, .methodref 10 105), (0, .nameAndType 106 107), (0, u "newCapacity"), (0, u "(I)I"), (0, .methodref 109 110), (0, .class_ 111), (0, .nameAndType 112 113), (0, u "java/util/Arrays"), (0, u "copyOf"), (0, u "([BI)[B"), (0, .methodref 115 116), (0, .class_ 117), (0, .nameAndType 118 119), (0, u "jdk/internal/util/ArraysSupport"), (0, u "newLength"), (0, u "(III)I"), (5, .methodref 88 126), (0, .nameAndType 127 128), (0, u "inflate"), (0, u "([BI[BII)V"), (7, u "([BII)V"), (54, .methodref 88 192), (0, .nameAndType 193 194), (0, u "canEncode"), (0, u "(C)Z"), (0, .methodref 10 196), (0, .nameAndType 127 8), (0, .methodref 27 198), (0, .nameAndType 199 136), (0, u "putCharSB"), (8, .methodref 10 209), (0, .nameAndType 210 211), (0, u "putStringAt"), (0, u "(ILjava/lang/String;)V"), (5, u "inflateIfNeededFor"), (2, .nameAndType 221 222), (0, u "getBytes"), (0, u "([BIB)V"), (69, u "(C)Ljava/lang/AbstractStringBuilder;"), (104, .methodref 10 398), (0, .nameAndType 217 69), (0, .methodref 1 220), (3, u "()[B"), (40, .class_ 445), (0, u "java/lang/Appendable"), (106, u "getValue")] 56

def k11m0 : Method := { name := "<init>", desc := "()V", sig := { parameters := [], returnType := none }, accessFlags := 0, code := none }
def k11c1 : Code := { maxStack := 2, maxLocals := 2, code := jdk_68_method_2_code, exceptionTable := #[], attributes := #[] }
def k11m1 : Method := { name := "<init>", desc := "(I)V", sig := { parameters := [.int], returnType := none }, accessFlags := 0, code := some k11c1 }
def k11c2 : Code := { maxStack := 1, maxLocals := 1, code := jdk_68_method_6_code, exceptionTable := #[], attributes := #[] }
def k11m2 : Method := { name := "length", desc := "()I", sig := { parameters := [], returnType := some .int }, accessFlags := 1, code := some k11c2 }
def k11c3 : Code := { maxStack := 4, maxLocals := 3, code := jdk_68_method_9_code, exceptionTable := #[], attributes := #[] }
def k11m3 : Method := { name := "ensureCapacityInternal", desc := "(I)V", sig := { parameters := [.int], returnType := none }, accessFlags := 2, code := some k11c3 }
def k11c4 : Code := { maxStack := 5, maxLocals := 6, code := jdk_68_method_10_code, exceptionTable := #[], attributes := #[] }
def k11m4 : Method := { name := "newCapacity", desc := "(I)I", sig := { parameters := [.int], returnType := some .int }, accessFlags := 2, code := some k11c4 }
def k11c5 : Code := { maxStack := 5, maxLocals := 2, code := jdk_68_method_11_code, exceptionTable := #[], attributes := #[] }
def k11m5 : Method := { name := "inflate", desc := "()V", sig := { parameters := [], returnType := none }, accessFlags := 2, code := some k11c5 }
def k11c6 : Code := { maxStack := 3, maxLocals := 3, code := jdk_68_method_22_code, exceptionTable := #[], attributes := #[] }
def k11m6 : Method := { name := "append", desc := "(Ljava/lang/String;)Ljava/lang/AbstractStringBuilder;", sig := { parameters := [(.object "java/lang/String")], returnType := some (.object "java/lang/AbstractStringBuilder") }, accessFlags := 1, code := some k11c6 }
def k11c7 : Code := { maxStack := 5, maxLocals := 2, code := jdk_68_method_31_code, exceptionTable := #[], attributes := #[] }
def k11m7 : Method := { name := "append", desc := "(C)Ljava/lang/AbstractStringBuilder;", sig := { parameters := [.char], returnType := some (.object "java/lang/AbstractStringBuilder") }, accessFlags := 1, code := some k11c7 }
def k11c8 : Code := { maxStack := 1, maxLocals := 1, code := jdk_68_method_64_code, exceptionTable := #[], attributes := #[] }
def k11m8 : Method := { name := "getValue", desc := "()[B", sig := { parameters := [], returnType := some (.array .byte) }, accessFlags := 16, code := some k11c8 }
def k11c9 : Code := { maxStack := 1, maxLocals := 1, code := jdk_68_method_68_code, exceptionTable := #[], attributes := #[] }
def k11m9 : Method := { name := "isLatin1", desc := "()Z", sig := { parameters := [], returnType := some .boolean }, accessFlags := 16, code := some k11c9 }
def k11c10 : Code := { maxStack := 2, maxLocals := 2, code := jdk_68_method_71_code, exceptionTable := #[], attributes := #[] }
def k11m10 : Method := { name := "inflateIfNeededFor", desc := "(Ljava/lang/String;)V", sig := { parameters := [(.object "java/lang/String")], returnType := none }, accessFlags := 2, code := some k11c10 }
def k11c11 : Code := { maxStack := 4, maxLocals := 3, code := jdk_68_method_73_code, exceptionTable := #[], attributes := #[] }
def k11m11 : Method := { name := "putStringAt", desc := "(ILjava/lang/String;)V", sig := { parameters := [.int, (.object "java/lang/String")], returnType := none }, accessFlags := 2, code := some k11c11 }
/-- java/lang/AbstractStringBuilder -/
def k11 : Class := { plain "java/lang/AbstractStringBuilder" (some 0) with
  accessFlags := 1056
  interfaces := #[10, 4]
  cf := some (fileOf pool11 10 #[] #[{ accessFlags := 0, nameIndex := 7, descriptorIndex := 8, attributes := #[] }, { accessFlags := 0, nameIndex := 7, descriptorIndex := 103, attributes := #[] }, { accessFlags := 1, nameIndex := 34, descriptorIndex := 35, attributes := #[] }, { accessFlags := 2, nameIndex := 102, descriptorIndex := 103, attributes := #[] }, { accessFlags := 2, nameIndex := 106, descriptorIndex := 107, attributes := #[] }, { accessFlags := 2, nameIndex := 127, descriptorIndex := 8, attributes := #[] }, { accessFlags := 1, nameIndex := 45, descriptorIndex := 46, attributes := #[] }, { accessFlags := 1, nameIndex := 45, descriptorIndex := 292, attributes := #[] }, { accessFlags := 16, nameIndex := 552, descriptorIndex := 403, attributes := #[] }, { accessFlags := 16, nameIndex := 85, descriptorIndex := 86, attributes := #[] }, { accessFlags := 2, nameIndex := 217, descriptorIndex := 69, attributes := #[] }, { accessFlags := 2, nameIndex := 210, descriptorIndex := 211, attributes := #[] }] 1056 4 #[444, 48] #[{ accessFlags := 0, nameIndex := 17, descriptorIndex := 14, attributes := #[] }, { accessFlags := 0, nameIndex := 24, descriptorIndex := 25, attributes := #[] }, { accessFlags := 0, nameIndex := 75, descriptorIndex := 21, attributes := #[] }, { accessFlags := 0, nameIndex := 81, descriptorIndex := 82, attributes := #[] }, { accessFlags := 26, nameIndex := 13, descriptorIndex := 14, attributes := #[] }])
  fields := #[{ name := "value", type := (.array .byte), accessFlags := 0, slot := 0, constantValue := 0 }, { name := "coder", type := .byte, accessFlags := 0, slot := 1, constantValue := 0 }, { name := "maybeLatin1", type := .boolean, accessFlags := 0, slot := 2, constantValue := 0 }, { name := "count", type := .int, accessFlags := 0, slot := 3, constantValue := 0 }, { name := "EMPTYVALUE", type := (.array .byte), accessFlags := 26, slot := 0, constantValue := 0 }]
  methods := #[k11m0, k11m1, k11m2, k11m3, k11m4, k11m5, k11m6, k11m7, k11m8, k11m9, k11m10, k11m11]
  instanceTypes := #[(.array .byte), .byte, .boolean, .int]
  staticTypes := #[(.array .byte)]
  resolved := Array.replicate 609 none
  statics := none }

def pool12 : Array CpInfo := pool [(1, .methodref 2 3), (0, .class_ 4), (0, .nameAndType 5 6), (0, u "java/lang/AbstractStringBuilder"), (0, u "<init>"), (0, u "(I)V"), (11, .class_ 20), (1, u "java/lang/String"), (3, .class_ 26), (1, u "java/lang/StringBuilder"), (0, u "append"), (0, u "(Ljava/lang/String;)Ljava/lang/StringBuilder;"), (0, .methodref 2 30), (0, .nameAndType 27 31), (0, u "(Ljava/lang/String;)Ljava/lang/AbstractStringBuilder;"), (18, .methodref 2 51), (0, .nameAndType 27 52), (0, u "(C)Ljava/lang/AbstractStringBuilder;"), (84, .methodref 18 138), (0, .nameAndType 5 139), (0, u "(Ljava/lang/StringBuilder;)V"), (5, u "()V"), (10, u "()I"), (129, u "(C)Ljava/lang/StringBuilder;"), (56, .methodref 2 344), (0, .nameAndType 345 156), (0, u "length"), (3, .class_ 350), (0, u "java/lang/Appendable"), (0, .class_ 352), (0, u "java/io/Serializable"), (0, .class_ 354), (0, u "java/lang/Comparable"), (0, .class_ 356), (0, u "java/lang/CharSequence"), (0, u "serialVersionUID"), (0, u "J"), (40, u "toString"), (0, u "()Ljava/lang/String;")] 21

def k12m0 : Method := { name := "<init>", desc := "()V", sig := { parameters := [], returnType := none }, accessFlags := 1, code := none }
def k12c1 : Code := { maxStack := 2, maxLocals := 2, code := jdk_67_method_2_code, exceptionTable := #[], attributes := #[] }
def k12m1 : Method := { name := "<init>", desc := "(I)V", sig := { parameters := [.int], returnType := none }, accessFlags := 1, code := some k12c1 }
def k12c2 : Code := { maxStack := 2, maxLocals := 2, code := jdk_67_method_7_code, exceptionTable := #[], attributes := #[] }
def k12m2 : Method := { name := "append", desc := "(Ljava/lang/String;)Ljava/lang/StringBuilder;", sig := { parameters := [(.object "java/lang/String")], returnType := some (.object "java/lang/StringBuilder") }, accessFlags := 1, code := some k12c2 }
def k12c3 : Code := { maxStack := 2, maxLocals := 2, code := jdk_67_method_14_code, exceptionTable := #[], attributes := #[] }
def k12m3 : Method := { name := "append", desc := "(C)Ljava/lang/StringBuilder;", sig := { parameters := [.char], returnType := some (.object "java/lang/StringBuilder") }, accessFlags := 1, code := some k12c3 }
def k12c4 : Code := { maxStack := 3, maxLocals := 1, code := jdk_67_method_42_code, exceptionTable := #[], attributes := #[] }
def k12m4 : Method := { name := "toString", desc := "()Ljava/lang/String;", sig := { parameters := [], returnType := some (.object "java/lang/String") }, accessFlags := 1, code := some k12c4 }
def k12c5 : Code := { maxStack := 1, maxLocals := 1, code := jdk_67_method_93_code, exceptionTable := #[], attributes := #[] }
def k12m5 : Method := { name := "length", desc := "()I", sig := { parameters := [], returnType := some .int }, accessFlags := 4161, code := some k12c5 }
/-- java/lang/StringBuilder -/
def k12 : Class := { plain "java/lang/StringBuilder" (some 11) with
  accessFlags := 49
  interfaces := #[10, 2, 3, 4]
  cf := some (fileOf pool12 24 #[] #[{ accessFlags := 1, nameIndex := 5, descriptorIndex := 145, attributes := #[] }, { accessFlags := 1, nameIndex := 5, descriptorIndex := 6, attributes := #[] }, { accessFlags := 1, nameIndex := 27, descriptorIndex := 28, attributes := #[] }, { accessFlags := 1, nameIndex := 27, descriptorIndex := 286, attributes := #[] }, { accessFlags := 1, nameIndex := 399, descriptorIndex := 400, attributes := #[] }, { accessFlags := 4161, nameIndex := 345, descriptorIndex := 156, attributes := #[] }] 49 2 #[349, 351, 353, 355] #[{ accessFlags := 24, nameIndex := 357, descriptorIndex := 358, attributes := #[] }])
  fields := #[{ name := "serialVersionUID", type := .long, accessFlags := 24, slot := 0, constantValue := 0 }]
  methods := #[k12m0, k12m1, k12m2, k12m3, k12m4, k12m5]
  instanceTypes := #[(.array .byte), .byte, .boolean, .int]
  staticTypes := #[.long]
  resolved := Array.replicate 422 none
  statics := none }

def pool13 : Array CpInfo := pool [(1, .class_ 2), (0, u "java/lang/String"), (1, .class_ 6), (1, u "java/lang/Object"), (0, u "<init>"), (0, u "()V"), (0, .methodref 1 10), (0, .nameAndType 11 12), (0, u "checkIndex"), (0, u "(II)V"), (1, .class_ 16), (1, u "java/lang/StringLatin1"), (0, u "inflate"), (2, .class_ 22), (1, u "java/lang/StringUTF16"), (3, .nameAndType 17 27), (0, u "([BI[BII)V"), (25, u "([BI)C"), (36, u "canEncode"), (14, u "(C)Z"), (15, u "$assertionsDisabled"), (0, u "Z"), (98, .class_ 223), (1, u "java/lang/StringLatin1$LinesSpliterator"), (16, .methodref 20 26), (11, u "charAt"), (137, .class_ 391), (0, u "java/lang/StringLatin1$CharsSpliterator")] 3

def k13m0 : Method := { name := "<init>", desc := "()V", sig := { parameters := [], returnType := none }, accessFlags := 0, code := none }
def k13c1 : Code := { maxStack := 2, maxLocals := 2, code := jdk_43_method_2_code, exceptionTable := #[], attributes := #[] }
def k13m1 : Method := { name := "charAt", desc := "([BI)C", sig := { parameters := [(.array .byte), .int], returnType := some .char }, accessFlags := 9, code := some k13c1 }
def k13c2 : Code := { maxStack := 2, maxLocals := 1, code := jdk_43_method_3_code, exceptionTable := #[], attributes := #[] }
def k13m2 : Method := { name := "canEncode", desc := "(C)Z", sig := { parameters := [.char], returnType := some .boolean }, accessFlags := 9, code := some k13c2 }
def k13c3 : Code := { maxStack := 5, maxLocals := 5, code := jdk_43_method_50_code, exceptionTable := #[], attributes := #[] }
def k13m3 : Method := { name := "inflate", desc := "([BI[BII)V", sig := { parameters := [(.array .byte), .int, (.array .byte), .int, .int], returnType := none }, accessFlags := 9, code := some k13c3 }
/-- java/lang/StringLatin1 -/
def k13 : Class := { plain "java/lang/StringLatin1" (some 0) with
  accessFlags := 48
  interfaces := #[]
  cf := some (fileOf pool13 14 #[.nestMembers #[390, 221]] #[{ accessFlags := 0, nameIndex := 7, descriptorIndex := 8, attributes := #[] }, { accessFlags := 9, nameIndex := 252, descriptorIndex := 53, attributes := #[] }, { accessFlags := 9, nameIndex := 90, descriptorIndex := 105, attributes := #[] }, { accessFlags := 9, nameIndex := 17, descriptorIndex := 27, attributes := #[] }] 48 4 #[] #[{ accessFlags := 4120, nameIndex := 121, descriptorIndex := 122, attributes := #[] }])
  fields := #[{ name := "$assertionsDisabled", type := .boolean, accessFlags := 4120, slot := 0, constantValue := 0 }]
  methods := #[k13m0, k13m1, k13m2, k13m3]
  instanceTypes := #[]
  staticTypes := #[.boolean]
  resolved := Array.replicate 395 none
  statics := none }

def pool14 : Array CpInfo := pool [(2, .class_ 4), (1, u "java/lang/Object"), (0, u "<init>"), (0, u "()V"), (17, .class_ 26), (1, u "jdk/internal/util/Preconditions"), (6, u "checkIndex"), (15, u "checkFromIndexSize"), (5, .class_ 56), (0, u "jdk/internal/util/Preconditions$4"), (57, .class_ 115), (0, u "jdk/internal/util/Preconditions$1"), (7, u "SIOOBE_FORMATTER"), (0, u "Ljava/util/function/BiFunction;"), (0, .class_ 126), (0, u "jdk/internal/util/Preconditions$2"), (3, u "AIOOBE_FORMATTER"), (0, .class_ 132), (0, u "jdk/internal/util/Preconditions$3"), (3, u "IOOBE_FORMATTER"), (41, u "(IILjava/util/function/BiFunction;)I"), (4, u "(IIILjava/util/function/BiFunction;)I")] 10

def k14m0 : Method := { name := "<init>", desc := "()V", sig := { parameters := [], returnType := none }, accessFlags := 1, code := none }
def k14c1 : Code := { maxStack := 3, maxLocals := 3, code := jdk_41_method_11_code, exceptionTable := #[], attributes := #[] }
def k14m1 : Method := { name := "checkIndex", desc := "(IILjava/util/function/BiFunction;)I", sig := { parameters := [.int, .int, (.object "java/util/function/BiFunction")], returnType := some .int }, accessFlags := 9, code := some k14c1 }
def k14c2 : Code := { maxStack := 4, maxLocals := 4, code := jdk_41_method_13_code, exceptionTable := #[], attributes := #[] }
def k14m2 : Method := { name := "checkFromIndexSize", desc := "(IIILjava/util/function/BiFunction;)I", sig := { parameters := [.int, .int, .int, (.object "java/util/function/BiFunction")], returnType := some .int }, accessFlags := 9, code := some k14c2 }
/-- jdk/internal/util/Preconditions -/
def k14 : Class := { plain "jdk/internal/util/Preconditions" (some 0) with
  accessFlags := 33
  interfaces := #[]
  cf := some (fileOf pool14 24 #[.nestMembers #[55, 131, 125, 114]] #[{ accessFlags := 1, nameIndex := 5, descriptorIndex := 6, attributes := #[] }, { accessFlags := 9, nameIndex := 33, descriptorIndex := 178, attributes := #[] }, { accessFlags := 9, nameIndex := 49, descriptorIndex := 183, attributes := #[] }] 33 2 #[] #[{ accessFlags := 25, nameIndex := 123, descriptorIndex := 124, attributes := #[] }, { accessFlags := 25, nameIndex := 130, descriptorIndex := 124, attributes := #[] }, { accessFlags := 25, nameIndex := 136, descriptorIndex := 124, attributes := #[] }])
  fields := #[{ name := "SIOOBE_FORMATTER", type := (.object "java/util/function/BiFunction"), accessFlags := 25, slot := 0, constantValue := 0 }, { name := "AIOOBE_FORMATTER", type := (.object "java/util/function/BiFunction"), accessFlags := 25, slot := 1, constantValue := 0 }, { name := "IOOBE_FORMATTER", type := (.object "java/util/function/BiFunction"), accessFlags := 25, slot := 2, constantValue := 0 }]
  methods := #[k14m0, k14m1, k14m2]
  instanceTypes := #[]
  staticTypes := #[(.object "java/util/function/BiFunction"), (.object "java/util/function/BiFunction"), (.object "java/util/function/BiFunction")]
  resolved := Array.replicate 194 none
  statics := some 2 }

def pool15 : Array CpInfo := pool [(9, u "<init>"), (6, .class_ 18), (1, u "java/lang/Object"), (0, u "()V"), (1, .class_ 23), (1, u "jdk/internal/util/ArraysSupport"), (0, u "LOG2_ARRAY_LONG_INDEX_SCALE"), (0, u "I"), (2, u "U"), (0, u "Ljdk/internal/misc/Unsafe;"), (8, u "BIG_ENDIAN"), (0, u "Z"), (8, u "LOG2_BYTE_BIT_SIZE"), (4, u "LOG2_ARRAY_INT_INDEX_SCALE"), (54, u "JLA"), (0, u "Ljdk/internal/access/JavaLangAccess;"), (11, u "LOG2_ARRAY_BOOLEAN_INDEX_SCALE"), (9, u "LOG2_ARRAY_BYTE_INDEX_SCALE"), (5, u "LOG2_ARRAY_CHAR_INDEX_SCALE"), (5, u "LOG2_ARRAY_SHORT_INDEX_SCALE"), (18, u "LOG2_ARRAY_FLOAT_INDEX_SCALE"), (24, u "LOG2_ARRAY_DOUBLE_INDEX_SCALE"), (6, .methodref 195 196), (0, .class_ 197), (0, .nameAndType 198 199), (0, u "java/lang/Math"), (0, u "max"), (0, u "(II)I"), (0, .integer 2147483639), (76, u "T_BOOLEAN"), (2, u "T_CHAR"), (1, u "T_FLOAT"), (1, u "T_DOUBLE"), (1, u "T_BYTE"), (1, u "T_SHORT"), (1, u "T_INT"), (1, u "T_LONG"), (1, u "SOFT_MAX_ARRAY_LENGTH"), (56, u "newLength"), (0, u "(III)I")] 25

def k15m0 : Method := { name := "<init>", desc := "()V", sig := { parameters := [], returnType := none }, accessFlags := 2, code := none }
def k15c1 : Code := { maxStack := 3, maxLocals := 4, code := jdk_48_method_27_code, exceptionTable := #[], attributes := #[] }
def k15m1 : Method := { name := "newLength", desc := "(III)I", sig := { parameters := [.int, .int, .int], returnType := some .int }, accessFlags := 9, code := some k15c1 }
/-- jdk/internal/util/ArraysSupport -/
def k15 : Class := { plain "jdk/internal/util/ArraysSupport" (some 0) with
  accessFlags := 33
  interfaces := #[]
  cf := some (fileOf pool15 21 #[] #[{ accessFlags := 2, nameIndex := 9, descriptorIndex := 19, attributes := #[] }, { accessFlags := 9, nameIndex := 351, descriptorIndex := 352, attributes := #[] }] 33 16 #[] #[{ accessFlags := 24, nameIndex := 28, descriptorIndex := 29, attributes := #[] }, { accessFlags := 26, nameIndex := 38, descriptorIndex := 39, attributes := #[] }, { accessFlags := 25, nameIndex := 121, descriptorIndex := 25, attributes := #[] }, { accessFlags := 25, nameIndex := 131, descriptorIndex := 25, attributes := #[] }, { accessFlags := 25, nameIndex := 137, descriptorIndex := 25, attributes := #[] }, { accessFlags := 25, nameIndex := 143, descriptorIndex := 25, attributes := #[] }, { accessFlags := 25, nameIndex := 53, descriptorIndex := 25, attributes := #[] }, { accessFlags := 25, nameIndex := 24, descriptorIndex := 25, attributes := #[] }, { accessFlags := 25, nameIndex := 162, descriptorIndex := 25, attributes := #[] }, { accessFlags := 25, nameIndex := 187, descriptorIndex := 25, attributes := #[] }, { accessFlags := 26, nameIndex := 48, descriptorIndex := 25, attributes := #[] }, { accessFlags := 25, nameIndex := 277, descriptorIndex := 25, attributes := #[] }, { accessFlags := 25, nameIndex := 280, descriptorIndex := 25, attributes := #[] }, { accessFlags := 25, nameIndex := 282, descriptorIndex := 25, attributes := #[] }, { accessFlags := 25, nameIndex := 284, descriptorIndex := 25, attributes := #[] }, { accessFlags := 25, nameIndex := 286, descriptorIndex := 25, attributes := #[] }, { accessFlags := 25, nameIndex := 288, descriptorIndex := 25, attributes := #[] }, { accessFlags := 25, nameIndex := 290, descriptorIndex := 25, attributes := #[] }, { accessFlags := 25, nameIndex := 292, descriptorIndex := 25, attributes := #[] }, { accessFlags := 26, nameIndex := 108, descriptorIndex := 109, attributes := #[] }, { accessFlags := 25, nameIndex := 294, descriptorIndex := 25, attributes := #[] }])
  fields := #[{ name := "U", type := (.object "jdk/internal/misc/Unsafe"), accessFlags := 24, slot := 0, constantValue := 0 }, { name := "BIG_ENDIAN", type := .boolean, accessFlags := 26, slot := 1, constantValue := 0 }, { name := "LOG2_ARRAY_BOOLEAN_INDEX_SCALE", type := .int, accessFlags := 25, slot := 2, constantValue := 0 }, { name := "LOG2_ARRAY_BYTE_INDEX_SCALE", type := .int, accessFlags := 25, slot := 3, constantValue := 0 }, { name := "LOG2_ARRAY_CHAR_INDEX_SCALE", type := .int, accessFlags := 25, slot := 4, constantValue := 0 }, { name := "LOG2_ARRAY_SHORT_INDEX_SCALE", type := .int, accessFlags := 25, slot := 5, constantValue := 0 }, { name := "LOG2_ARRAY_INT_INDEX_SCALE", type := .int, accessFlags := 25, slot := 6, constantValue := 0 }, { name := "LOG2_ARRAY_LONG_INDEX_SCALE", type := .int, accessFlags := 25, slot := 7, constantValue := 0 }, { name := "LOG2_ARRAY_FLOAT_INDEX_SCALE", type := .int, accessFlags := 25, slot := 8, constantValue := 0 }, { name := "LOG2_ARRAY_DOUBLE_INDEX_SCALE", type := .int, accessFlags := 25, slot := 9, constantValue := 0 }, { name := "LOG2_BYTE_BIT_SIZE", type := .int, accessFlags := 26, slot := 10, constantValue := 0 }, { name := "T_BOOLEAN", type := .int, accessFlags := 25, slot := 11, constantValue := 0 }, { name := "T_CHAR", type := .int, accessFlags := 25, slot := 12, constantValue := 0 }, { name := "T_FLOAT", type := .int, accessFlags := 25, slot := 13, constantValue := 0 }, { name := "T_DOUBLE", type := .int, accessFlags := 25, slot := 14, constantValue := 0 }, { name := "T_BYTE", type := .int, accessFlags := 25, slot := 15, constantValue := 0 }, { name := "T_SHORT", type := .int, accessFlags := 25, slot := 16, constantValue := 0 }, { name := "T_INT", type := .int, accessFlags := 25, slot := 17, constantValue := 0 }, { name := "T_LONG", type := .int, accessFlags := 25, slot := 18, constantValue := 0 }, { name := "JLA", type := (.object "jdk/internal/access/JavaLangAccess"), accessFlags := 26, slot := 19, constantValue := 0 }, { name := "SOFT_MAX_ARRAY_LENGTH", type := .int, accessFlags := 25, slot := 20, constantValue := 0 }]
  methods := #[k15m0, k15m1]
  instanceTypes := #[]
  staticTypes := #[(.object "jdk/internal/misc/Unsafe"), .boolean, .int, .int, .int, .int, .int, .int, .int, .int, .int, .int, .int, .int, .int, .int, .int, .int, .int, (.object "jdk/internal/access/JavaLangAccess"), .int]
  resolved := Array.replicate 378 none
  statics := none }

def pool16 : Array CpInfo := pool [(1, .class_ 2), (0, u "java/lang/Math"), (1, .class_ 6), (1, u "java/lang/Object"), (0, u "<init>"), (0, u "()V"), (89, .class_ 100), (1, u "java/lang/Math$RandomNumberGeneratorHolder"), (71, u "negativeZeroFloatBits"), (0, u "J"), (2, u "negativeZeroDoubleBits"), (21, u "max"), (2, u "min"), (43, u "$assertionsDisabled"), (0, u "Z"), (88, u "(II)I"), (2, u "twoToTheDoubleScaleDown"), (0, u "D"), (4, u "twoToTheDoubleScaleUp"), (9, u "E"), (3, u "PI"), (2, u "TAU"), (2, u "DEGREES_TO_RADIANS"), (0, u "RADIANS_TO_DEGREES")] 94

def k16m0 : Method := { name := "<init>", desc := "()V", sig := { parameters := [], returnType := none }, accessFlags := 2, code := none }
def k16c1 : Code := { maxStack := 2, maxLocals := 2, code := jdk_29_method_65_code, exceptionTable := #[], attributes := #[] }
def k16m1 : Method := { name := "max", desc := "(II)I", sig := { parameters := [.int, .int], returnType := some .int }, accessFlags := 9, code := some k16c1 }
def k16c2 : Code := { maxStack := 2, maxLocals := 2, code := jdk_29_method_69_code, exceptionTable := #[], attributes := #[] }
def k16m2 : Method := { name := "min", desc := "(II)I", sig := { parameters := [.int, .int], returnType := some .int }, accessFlags := 9, code := some k16c2 }
/-- java/lang/Math -/
def k16 : Class := { plain "java/lang/Math" (some 0) with
  accessFlags := 49
  interfaces := #[]
  cf := some (fileOf pool16 1 #[.nestMembers #[98]] #[{ accessFlags := 2, nameIndex := 7, descriptorIndex := 8, attributes := #[] }, { accessFlags := 9, nameIndex := 198, descriptorIndex := 335, attributes := #[] }, { accessFlags := 9, nameIndex := 201, descriptorIndex := 335, attributes := #[] }] 49 4 #[] #[{ accessFlags := 25, nameIndex := 354, descriptorIndex := 339, attributes := #[] }, { accessFlags := 25, nameIndex := 358, descriptorIndex := 339, attributes := #[] }, { accessFlags := 25, nameIndex := 361, descriptorIndex := 339, attributes := #[] }, { accessFlags := 26, nameIndex := 364, descriptorIndex := 339, attributes := #[] }, { accessFlags := 26, nameIndex := 365, descriptorIndex := 339, attributes := #[] }, { accessFlags := 26, nameIndex := 172, descriptorIndex := 173, attributes := #[] }, { accessFlags := 26, nameIndex := 176, descriptorIndex := 173, attributes := #[] }, { accessFlags := 8, nameIndex := 344, descriptorIndex := 339, attributes := #[] }, { accessFlags := 8, nameIndex := 338, descriptorIndex := 339, attributes := #[] }, { accessFlags := 4120, nameIndex := 245, descriptorIndex := 246, attributes := #[] }])
  fields := #[{ name := "E", type := .double, accessFlags := 25, slot := 0, constantValue := 0 }, { name := "PI", type := .double, accessFlags := 25, slot := 1, constantValue := 0 }, { name := "TAU", type := .double, accessFlags := 25, slot := 2, constantValue := 0 }, { name := "DEGREES_TO_RADIANS", type := .double, accessFlags := 26, slot := 3, constantValue := 0 }, { name := "RADIANS_TO_DEGREES", type := .double, accessFlags := 26, slot := 4, constantValue := 0 }, { name := "negativeZeroFloatBits", type := .long, accessFlags := 26, slot := 5, constantValue := 0 }, { name := "negativeZeroDoubleBits", type := .long, accessFlags := 26, slot := 6, constantValue := 0 }, { name := "twoToTheDoubleScaleUp", type := .double, accessFlags := 8, slot := 7, constantValue := 0 }, { name := "twoToTheDoubleScaleDown", type := .double, accessFlags := 8, slot := 8, constantValue := 0 }, { name := "$assertionsDisabled", type := .boolean, accessFlags := 4120, slot := 9, constantValue := 0 }]
  methods := #[k16m0, k16m1, k16m2]
  instanceTypes := #[]
  staticTypes := #[.double, .double, .double, .double, .double, .long, .long, .double, .double, .boolean]
  resolved := Array.replicate 460 none
  statics := none }

def pool17 : Array CpInfo := pool [(2, .class_ 4), (1, u "java/lang/Object"), (0, u "<init>"), (0, u "()V"), (7, .class_ 16), (1, u "java/util/Arrays"), (57, .class_ 76), (1, u "java/util/Arrays$NaturalOrder"), (32, u "()Ljava/lang/Object;"), (3, .class_ 115), (1, u "java/util/Arrays$LegacyMergeSort"), (1, u "Z"), (10, .nameAndType 129 109), (0, u "clone"), (9, u "copyOfRange"), (10, .methodref 151 152), (0, .class_ 153), (0, .nameAndType 154 155), (0, u "java/lang/System"), (0, u "arraycopy"), (0, u "(Ljava/lang/Object;ILjava/lang/Object;II)V"), (146, u "copyOf"), (1, .methodref 305 306), (0, .class_ 307), (0, .nameAndType 308 309), (0, u "java/lang/Math"), (0, u "min"), (0, u "(II)I"), (0, .methodref 311 128), (0, .class_ 312), (0, u "[B"), (26, .methodref 14 340), (0, .nameAndType 341 342), (0, u "copyOfRangeByte"), (0, u "([BII)[B"), (0, .methodref 14 344), (0, .nameAndType 345 346), (0, u "checkLength"), (0, u "(II)V"), (28, .class_ 376), (0, u "java/util/Arrays$ArrayList"), (68, u "$assertionsDisabled"), (269, u "MIN_ARRAY_SORT_GRAN"), (0, u "I"), (2, u "INSERTIONSORT_THRESHOLD"), (149, u "([BI)[B"), (105, .class_ 976), (0, u "java/util/Arrays$ArrayItr")] 52

def k17m0 : Method := { name := "<init>", desc := "()V", sig := { parameters := [], returnType := none }, accessFlags := 2, code := none }
def k17c1 : Code := { maxStack := 6, maxLocals := 3, code := jdk_65_method_121_code, exceptionTable := #[], attributes := #[] }
def k17m1 : Method := { name := "copyOf", desc := "([BI)[B", sig := { parameters := [(.array .byte), .int], returnType := some (.array .byte) }, accessFlags := 9, code := some k17c1 }
def k17c2 : Code := { maxStack := 4, maxLocals := 2, code := jdk_65_method_131_code, exceptionTable := #[], attributes := #[] }
def k17m2 : Method := { name := "checkLength", desc := "(II)V", sig := { parameters := [.int, .int], returnType := none }, accessFlags := 10, code := some k17c2 }
def k17c3 : Code := { maxStack := 3, maxLocals := 3, code := jdk_65_method_132_code, exceptionTable := #[], attributes := #[] }
def k17m3 : Method := { name := "copyOfRange", desc := "([BII)[B", sig := { parameters := [(.array .byte), .int, .int], returnType := some (.array .byte) }, accessFlags := 9, code := some k17c3 }
def k17c4 : Code := { maxStack := 6, maxLocals := 5, code := jdk_65_method_133_code, exceptionTable := #[], attributes := #[] }
def k17m4 : Method := { name := "copyOfRangeByte", desc := "([BII)[B", sig := { parameters := [(.array .byte), .int, .int], returnType := some (.array .byte) }, accessFlags := 10, code := some k17c4 }
/-- java/util/Arrays -/
def k17 : Class := { plain "java/util/Arrays" (some 0) with
  accessFlags := 49
  interfaces := #[]
  cf := some (fileOf pool17 14 #[.nestMembers #[975, 375, 113, 74]] #[{ accessFlags := 2, nameIndex := 5, descriptorIndex := 6, attributes := #[] }, { accessFlags := 9, nameIndex := 302, descriptorIndex := 869, attributes := #[] }, { accessFlags := 10, nameIndex := 345, descriptorIndex := 346, attributes := #[] }, { accessFlags := 9, nameIndex := 139, descriptorIndex := 342, attributes := #[] }, { accessFlags := 10, nameIndex := 341, descriptorIndex := 342, attributes := #[] }] 49 2 #[] #[{ accessFlags := 26, nameIndex := 715, descriptorIndex := 716, attributes := #[] }, { accessFlags := 26, nameIndex := 719, descriptorIndex := 716, attributes := #[] }, { accessFlags := 4120, nameIndex := 445, descriptorIndex := 117, attributes := #[] }])
  fields := #[{ name := "MIN_ARRAY_SORT_GRAN", type := .int, accessFlags := 26, slot := 0, constantValue := 0 }, { name := "INSERTIONSORT_THRESHOLD", type := .int, accessFlags := 26, slot := 1, constantValue := 0 }, { name := "$assertionsDisabled", type := .boolean, accessFlags := 4120, slot := 2, constantValue := 0 }]
  methods := #[k17m0, k17m1, k17m2, k17m3, k17m4]
  instanceTypes := #[]
  staticTypes := #[.int, .int, .boolean]
  resolved := Array.replicate 1029 none
  statics := none }

def pool18 : Array CpInfo := pool [(2, .class_ 4), (1, u "java/lang/Object"), (0, u "<init>"), (0, u "()V"), (1, .class_ 10), (1, u "java/lang/System"), (0, u "allowSecurityManager"), (0, u "I"), (16, u "cons"), (0, u "Ljava/io/Console;"), (77, .class_ 110), (1, u "java/lang/System$CallersHolder"), (43, u "initialErrStream"), (0, u "Ljava/io/PrintStream;"), (19, u "security"), (0, u "Ljava/lang/SecurityManager;"), (31, .class_ 209), (0, u "java/lang/System$1"), (7, u "props"), (0, u "Ljava/util/Properties;"), (2, u "lineSeparator"), (0, u "Ljava/lang/String;"), (96, .class_ 321), (1, u "java/lang/System$LoggerFinder"), (5, .class_ 328), (0, u "java/lang/System$Logger"), (67, u "err"), (2, u "out"), (91, u "notSupportedJnuEncoding"), (15, u "in"), (17, u "initialIn"), (0, u "Ljava/io/InputStream;"), (35, u "bootLayer"), (0, u "Ljava/lang/ModuleLayer;"), (99, .class_ 664), (0, u "java/lang/System$2"), (9, u "NEVER"), (2, u "MAYBE"), (49, u "arraycopy"), (0, u "(Ljava/lang/Object;ILjava/lang/Object;II)V"), (72, .class_ 802), (0, u "java/lang/System$Logger$Level")] 31

def k18m0 : Method := { name := "<init>", desc := "()V", sig := { parameters := [], returnType := none }, accessFlags := 2, code := none }
def k18m1 : Method := { name := "arraycopy", desc := "(Ljava/lang/Object;ILjava/lang/Object;II)V", sig := { parameters := [(.object "java/lang/Object"), .int, (.object "java/lang/Object"), .int, .int], returnType := none }, accessFlags := 265, code := none }
/-- java/lang/System -/
def k18 : Class := { plain "java/lang/System" (some 0) with
  accessFlags := 49
  interfaces := #[]
  cf := some (fileOf pool18 8 #[.nestMembers #[319, 327, 801, 108, 663, 208]] #[{ accessFlags := 2, nameIndex := 5, descriptorIndex := 6, attributes := #[] }, { accessFlags := 265, nameIndex := 727, descriptorIndex := 728, attributes := #[] }] 49 2 #[] #[{ accessFlags := 25, nameIndex := 507, descriptorIndex := 526, attributes := #[] }, { accessFlags := 25, nameIndex := 399, descriptorIndex := 155, attributes := #[] }, { accessFlags := 25, nameIndex := 396, descriptorIndex := 155, attributes := #[] }, { accessFlags := 10, nameIndex := 525, descriptorIndex := 526, attributes := #[] }, { accessFlags := 26, nameIndex := 674, descriptorIndex := 12, attributes := #[] }, { accessFlags := 26, nameIndex := 677, descriptorIndex := 12, attributes := #[] }, { accessFlags := 10, nameIndex := 11, descriptorIndex := 12, attributes := #[] }, { accessFlags := 74, nameIndex := 175, descriptorIndex := 176, attributes := #[] }, { accessFlags := 10, nameIndex := 491, descriptorIndex := 222, attributes := #[] }, { accessFlags := 74, nameIndex := 29, descriptorIndex := 30, attributes := #[] }, { accessFlags := 74, nameIndex := 154, descriptorIndex := 155, attributes := #[] }, { accessFlags := 10, nameIndex := 217, descriptorIndex := 218, attributes := #[] }, { accessFlags := 10, nameIndex := 221, descriptorIndex := 222, attributes := #[] }, { accessFlags := 8, nameIndex := 562, descriptorIndex := 563, attributes := #[] }])
  fields := #[{ name := "in", type := (.object "java/io/InputStream"), accessFlags := 25, slot := 0, constantValue := 0 }, { name := "out", type := (.object "java/io/PrintStream"), accessFlags := 25, slot := 1, constantValue := 0 }, { name := "err", type := (.object "java/io/PrintStream"), accessFlags := 25, slot := 2, constantValue := 0 }, { name := "initialIn", type := (.object "java/io/InputStream"), accessFlags := 10, slot := 3, constantValue := 0 }, { name := "NEVER", type := .int, accessFlags := 26, slot := 4, constantValue := 0 }, { name := "MAYBE", type := .int, accessFlags := 26, slot := 5, constantValue := 0 }, { name := "allowSecurityManager", type := .int, accessFlags := 10, slot := 6, constantValue := 0 }, { name := "security", type := (.object "java/lang/SecurityManager"), accessFlags := 74, slot := 7, constantValue := 0 }, { name := "notSupportedJnuEncoding", type := (.object "java/lang/String"), accessFlags := 10, slot := 8, constantValue := 0 }, { name := "cons", type := (.object "java/io/Console"), accessFlags := 74, slot := 9, constantValue := 0 }, { name := "initialErrStream", type := (.object "java/io/PrintStream"), accessFlags := 74, slot := 10, constantValue := 0 }, { name := "props", type := (.object "java/util/Properties"), accessFlags := 10, slot := 11, constantValue := 0 }, { name := "lineSeparator", type := (.object "java/lang/String"), accessFlags := 10, slot := 12, constantValue := 0 }, { name := "bootLayer", type := (.object "java/lang/ModuleLayer"), accessFlags := 8, slot := 13, constantValue := 0 }]
  methods := #[k18m0, k18m1]
  instanceTypes := #[]
  staticTypes := #[(.object "java/io/InputStream"), (.object "java/io/PrintStream"), (.object "java/io/PrintStream"), (.object "java/io/InputStream"), .int, .int, .int, (.object "java/lang/SecurityManager"), (.object "java/lang/String"), (.object "java/io/Console"), (.object "java/io/PrintStream"), (.object "java/util/Properties"), (.object "java/lang/String"), (.object "java/lang/ModuleLayer")]
  resolved := Array.replicate 834 none
  statics := none }

def pool19 : Array CpInfo := pool [(1, .class_ 2), (0, u "java/lang/Cloneable"), (0, .class_ 4), (0, u "java/lang/Object")] 2

/-- java/lang/Cloneable -/
def k19 : Class := { plain "java/lang/Cloneable" (some 0) with
  accessFlags := 1537
  interfaces := #[]
  cf := some (fileOf pool19 1 #[] #[] 1537 3 #[] #[])
  fields := #[]
  methods := #[]
  instanceTypes := #[]
  staticTypes := #[]
  resolved := Array.replicate 7 none
  statics := none }

/-- the primitive byte -/
def k20 : Class := { plain "byte" none with kind := .primitive 'B', accessFlags := 0x411 }
/-- [B -/
def k21 : Class := { plain "[B" (some 0) with kind := .array 20 .byte, interfaces := #[19, 2], accessFlags := 1041 }

/-- the primitive char -/
def k22 : Class := { plain "char" none with kind := .primitive 'C', accessFlags := 0x411 }
/-- [C -/
def k23 : Class := { plain "[C" (some 0) with kind := .array 22 .char, interfaces := #[19, 2], accessFlags := 1041 }

def heap : Heap := #[{ cls := 7, slots := #[.long 0, .int 1, .null, .int 0, .null, .int 0, .int 0], vm := .statics 7 },
  { cls := 8, slots := #[.int 0, .int 8, .int 0, .int 1], vm := .statics 8 },
  { cls := 14, slots := #[.null, .null, .null], vm := .statics 14 }]
def classes : Array Class := #[k0, k1, k2, k3, k4, k5, k6, k7, k8, k9, k10, k11, k12, k13, k14, k15, k16, k17, k18, k19, k20, k21, k22, k23]
def interned : List (Array UInt16 × Addr) := []
def slotsUsed : Nat := 14
def theMethod : MethodId := ⟨1, 3⟩
def args0 : Array Value := #[.int 0, .int 0, .int 0, .int 1]
def aboutOver (below : List Frame) : State where
  vm := { classes := classes, interned := interned.toArray }
  heap := heap
  slotsUsed := slotsUsed
  threads := #[{ frames := .invoking theMethod args0 :: below }]
def below0 : List Frame := [.native { method := ⟨0, 0⟩, args := #[] }]
def about1 : State := aboutOver below0
def p0 : Program := .bare "" "" ""
def e0 : Env := launch0.env 0 0 0
theorem w_frames : about1.frames = Frame.invoking theMethod args0 :: below0 := rfl
set_option maxRecDepth 65536 in
theorem w_args : argsFit about1.vm theMethod args0 = true := by decide +kernel
set_option maxRecDepth 65536 in
theorem w_heap : heapFits about1 = true := by decide +kernel
set_option maxRecDepth 65536 in
theorem w_runnable : about1.curStatus? = some .runnable := by decide +kernel
set_option maxRecDepth 65536 in
theorem w_alone : about1.alone = true := by decide +kernel
set_option maxRecDepth 65536 in
theorem w_named : about1.methodNamed? x = some theMethod := by decide +kernel
set_option maxRecDepth 65536 in
theorem w_hears : about1.hears theMethod below0 = true := by decide +kernel
set_option maxRecDepth 65536 in
theorem w_ripe : about1.ripe theMethod args0 below0 = true := by decide +kernel
theorem w_running : about1.status = .running := rfl
set_option maxRecDepth 65536 in
theorem w_room : about1.hasRoom e0.platform room_1 = true :=
  launch0.hasRoom_least _ room_1 (by decide +kernel) (by decide +kernel) (by decide +kernel) (by decide +kernel) (by decide +kernel) (by decide +kernel)
theorem allAtoms_all (ts : List Jvm.Cond) (a : Array Jvm.Value) (st : Jvm.State) : (allAtoms ts).before a st = ts.all (fun c => c.before a st) := by
  induction ts with
  | nil => rfl
  | cons c t ih =>
    show (Jvm.Cond.and c (allAtoms t)).before a st = _
    rw [Jvm.Cond.before_and, ih, List.all_cons]
def words1 : List Jvm.Cond := Jvm.Cond.code x code maxLocals ret :: tables_1
/-- a 'code' word, met by the world's own term for the bytes: nothing is compared byte by byte -/
theorem code_word {y : MethodName} {bytes : ByteArray} {mx : Nat} {rt : Option FieldType} {a : Array Value} {s : State} {m : MethodId} {meth : Method} {c : Code} (h1 : s.methodNamed? y = some m) (h2 : s.vm.method? m = some meth) (h3 : meth.code = some c) (h4 : c.code = bytes)
    (h5 : (c.maxLocals == mx && c.exceptionTable.isEmpty && decide (c.maxStack ≤ mostOperands) && decide (meth.sig.returnType = rt) && !meth.locks && decide (parseMethodDescriptor y.desc = some meth.sig)) = true) : (Jvm.Cond.code y bytes mx rt).before a s = true := by
  simp only [Bool.and_eq_true, beq_iff_eq, Bool.not_eq_true', decide_eq_true_eq] at h5
  obtain ⟨⟨⟨⟨⟨g1, g2⟩, g3⟩, g4⟩, g5⟩, g6⟩ := h5
  simp [Cond.before, Cond.holds, Cond.value, h1, h2, h3, h4, g1, g2, g3, g4, g5, g6]
def isCode : Jvm.Cond → Bool
  | .code _ _ _ _ => true
  | _ => false
theorem all_split {L : List Jvm.Cond} {P : Jvm.Cond → Bool} (h1 : L.all (fun c => isCode c || P c) = true) (h2 : ∀ c ∈ L.filter isCode, P c = true) : L.all P = true := by
  refine List.all_eq_true.mpr fun c hc => ?_
  have h := List.all_eq_true.mp h1 c hc
  rcases Bool.eq_false_or_eq_true (isCode c) with hi | hi
  · exact h2 c (List.mem_filter.mpr ⟨hc, hi⟩)
  · simpa [hi] using h
set_option maxRecDepth 65536 in
theorem w_c0 : (Jvm.Cond.code x code maxLocals ret).before args0 about1 = true := code_word (m := ⟨1, 3⟩) (meth := k1m3) (c := k1c3) (by decide +kernel) rfl rfl rfl (by decide +kernel)
set_option maxRecDepth 65536 in
theorem w_c1 : (Jvm.Cond.code ({ cls := "com/example/qedbox/qedbox/cli/TupleLinesEscapePinLaw", name := "pick", desc := "(I)C" } : Jvm.MethodName) method_2_code (2 : Nat) (Option.some Jvm.ClassFile.FieldType.char)).before args0 about1 = true := code_word (m := ⟨1, 1⟩) (meth := k1m1) (c := k1c1) (by decide +kernel) rfl rfl rfl (by decide +kernel)
set_option maxRecDepth 65536 in
theorem w_c2 : (Jvm.Cond.code ({ cls := "java/lang/String", name := "<init>", desc := "([C)V" } : Jvm.MethodName) jdk_42_method_3_code (2 : Nat) (Option.none : Option Jvm.ClassFile.FieldType)).before args0 about1 = true := code_word (m := ⟨7, 1⟩) (meth := k7m1) (c := k7c1) (by decide +kernel) rfl rfl rfl (by decide +kernel)
set_option maxRecDepth 65536 in
theorem w_c3 : (Jvm.Cond.code ({ cls := "java/lang/String", name := "<init>", desc := "([CIILjava/lang/Void;)V" } : Jvm.MethodName) jdk_42_method_149_code (6 : Nat) (Option.none : Option Jvm.ClassFile.FieldType)).before args0 about1 = true := code_word (m := ⟨7, 6⟩) (meth := k7m6) (c := k7c6) (by decide +kernel) rfl rfl rfl (by decide +kernel)
set_option maxRecDepth 65536 in
theorem w_c4 : (Jvm.Cond.code ({ cls := "java/lang/Object", name := "<init>", desc := "()V" } : Jvm.MethodName) object_method_1_code (1 : Nat) (Option.none : Option Jvm.ClassFile.FieldType)).before args0 about1 = true := code_word (m := ⟨0, 0⟩) (meth := k0m0) (c := k0c0) (by decide +kernel) rfl rfl rfl (by decide +kernel)
set_option maxRecDepth 65536 in
theorem w_c5 : (Jvm.Cond.code ({ cls := "java/lang/StringUTF16", name := "compress", desc := "([CII)[B" } : Jvm.MethodName) jdk_52_method_16_code (6 : Nat) (Option.some (Jvm.ClassFile.FieldType.array Jvm.ClassFile.FieldType.byte))).before args0 about1 = true := code_word (m := ⟨8, 8⟩) (meth := k8m8) (c := k8c8) (by decide +kernel) rfl rfl rfl (by decide +kernel)
set_option maxRecDepth 65536 in
theorem w_c6 : (Jvm.Cond.code ({ cls := "java/lang/StringUTF16", name := "compress", desc := "([CI[BII)I" } : Jvm.MethodName) jdk_52_method_21_code (7 : Nat) (Option.some Jvm.ClassFile.FieldType.int)).before args0 about1 = true := code_word (m := ⟨8, 9⟩) (meth := k8m9) (c := k8c9) (by decide +kernel) rfl rfl rfl (by decide +kernel)
set_option maxRecDepth 65536 in
theorem w_c7 : (Jvm.Cond.code ({ cls := "java/lang/StringUTF16", name := "coderFromArrayLen", desc := "([BI)B" } : Jvm.MethodName) jdk_52_method_15_code (2 : Nat) (Option.some Jvm.ClassFile.FieldType.byte)).before args0 about1 = true := code_word (m := ⟨8, 7⟩) (meth := k8m7) (c := k8c7) (by decide +kernel) rfl rfl rfl (by decide +kernel)
set_option maxRecDepth 65536 in
theorem w_c8 : (Jvm.Cond.code ({ cls := "com/example/qedbox/qedbox/cli/TupleLines", name := "escape", desc := "(Ljava/lang/String;)Ljava/lang/String;" } : Jvm.MethodName) prog_41_method_4_code (4 : Nat) (Option.some (Jvm.ClassFile.FieldType.object "java/lang/String"))).before args0 about1 = true := code_word (m := ⟨9, 1⟩) (meth := k9m1) (c := k9c1) (by decide +kernel) rfl rfl rfl (by decide +kernel)
set_option maxRecDepth 65536 in
theorem w_c9 : (Jvm.Cond.code ({ cls := "java/lang/String", name := "length", desc := "()I" } : Jvm.MethodName) jdk_42_method_54_code (1 : Nat) (Option.some Jvm.ClassFile.FieldType.int)).before args0 about1 = true := code_word (m := ⟨7, 3⟩) (meth := k7m3) (c := k7c3) (by decide +kernel) rfl rfl rfl (by decide +kernel)
set_option maxRecDepth 65536 in
theorem w_c10 : (Jvm.Cond.code ({ cls := "java/lang/String", name := "coder", desc := "()B" } : Jvm.MethodName) jdk_42_method_152_code (1 : Nat) (Option.some Jvm.ClassFile.FieldType.byte)).before args0 about1 = true := code_word (m := ⟨7, 8⟩) (meth := k7m8) (c := k7c8) (by decide +kernel) rfl rfl rfl (by decide +kernel)
set_option maxRecDepth 65536 in
theorem w_c11 : (Jvm.Cond.code ({ cls := "java/lang/StringBuilder", name := "<init>", desc := "(I)V" } : Jvm.MethodName) jdk_67_method_2_code (2 : Nat) (Option.none : Option Jvm.ClassFile.FieldType)).before args0 about1 = true := code_word (m := ⟨12, 1⟩) (meth := k12m1) (c := k12c1) (by decide +kernel) rfl rfl rfl (by decide +kernel)
set_option maxRecDepth 65536 in
theorem w_c12 : (Jvm.Cond.code ({ cls := "java/lang/AbstractStringBuilder", name := "<init>", desc := "(I)V" } : Jvm.MethodName) jdk_68_method_2_code (2 : Nat) (Option.none : Option Jvm.ClassFile.FieldType)).before args0 about1 = true := code_word (m := ⟨11, 1⟩) (meth := k11m1) (c := k11c1) (by decide +kernel) rfl rfl rfl (by decide +kernel)
set_option maxRecDepth 65536 in
theorem w_c13 : (Jvm.Cond.code ({ cls := "java/lang/String", name := "charAt", desc := "(I)C" } : Jvm.MethodName) jdk_42_method_56_code (2 : Nat) (Option.some Jvm.ClassFile.FieldType.char)).before args0 about1 = true := code_word (m := ⟨7, 4⟩) (meth := k7m4) (c := k7c4) (by decide +kernel) rfl rfl rfl (by decide +kernel)
set_option maxRecDepth 65536 in
theorem w_c14 : (Jvm.Cond.code ({ cls := "java/lang/String", name := "isLatin1", desc := "()Z" } : Jvm.MethodName) jdk_42_method_154_code (1 : Nat) (Option.some Jvm.ClassFile.FieldType.boolean)).before args0 about1 = true := code_word (m := ⟨7, 9⟩) (meth := k7m9) (c := k7c9) (by decide +kernel) rfl rfl rfl (by decide +kernel)
set_option maxRecDepth 65536 in
theorem w_c15 : (Jvm.Cond.code ({ cls := "java/lang/StringLatin1", name := "charAt", desc := "([BI)C" } : Jvm.MethodName) jdk_43_method_2_code (2 : Nat) (Option.some Jvm.ClassFile.FieldType.char)).before args0 about1 = true := code_word (m := ⟨13, 1⟩) (meth := k13m1) (c := k13c1) (by decide +kernel) rfl rfl rfl (by decide +kernel)
set_option maxRecDepth 65536 in
theorem w_c16 : (Jvm.Cond.code ({ cls := "java/lang/String", name := "checkIndex", desc := "(II)V" } : Jvm.MethodName) jdk_42_method_155_code (2 : Nat) (Option.none : Option Jvm.ClassFile.FieldType)).before args0 about1 = true := code_word (m := ⟨7, 10⟩) (meth := k7m10) (c := k7c10) (by decide +kernel) rfl rfl rfl (by decide +kernel)
set_option maxRecDepth 65536 in
theorem w_c17 : (Jvm.Cond.code ({ cls := "jdk/internal/util/Preconditions", name := "checkIndex", desc := "(IILjava/util/function/BiFunction;)I" } : Jvm.MethodName) jdk_41_method_11_code (3 : Nat) (Option.some Jvm.ClassFile.FieldType.int)).before args0 about1 = true := code_word (m := ⟨14, 1⟩) (meth := k14m1) (c := k14c1) (by decide +kernel) rfl rfl rfl (by decide +kernel)
set_option maxRecDepth 65536 in
theorem w_c18 : (Jvm.Cond.code ({ cls := "java/lang/StringBuilder", name := "append", desc := "(Ljava/lang/String;)Ljava/lang/StringBuilder;" } : Jvm.MethodName) jdk_67_method_7_code (2 : Nat) (Option.some (Jvm.ClassFile.FieldType.object "java/lang/StringBuilder"))).before args0 about1 = true := code_word (m := ⟨12, 2⟩) (meth := k12m2) (c := k12c2) (by decide +kernel) rfl rfl rfl (by decide +kernel)
set_option maxRecDepth 65536 in
theorem w_c19 : (Jvm.Cond.code ({ cls := "java/lang/AbstractStringBuilder", name := "append", desc := "(Ljava/lang/String;)Ljava/lang/AbstractStringBuilder;" } : Jvm.MethodName) jdk_68_method_22_code (3 : Nat) (Option.some (Jvm.ClassFile.FieldType.object "java/lang/AbstractStringBuilder"))).before args0 about1 = true := code_word (m := ⟨11, 6⟩) (meth := k11m6) (c := k11c6) (by decide +kernel) rfl rfl rfl (by decide +kernel)
set_option maxRecDepth 65536 in
theorem w_c20 : (Jvm.Cond.code ({ cls := "java/lang/AbstractStringBuilder", name := "ensureCapacityInternal", desc := "(I)V" } : Jvm.MethodName) jdk_68_method_9_code (3 : Nat) (Option.none : Option Jvm.ClassFile.FieldType)).before args0 about1 = true := code_word (m := ⟨11, 3⟩) (meth := k11m3) (c := k11c3) (by decide +kernel) rfl rfl rfl (by decide +kernel)
set_option maxRecDepth 65536 in
theorem w_c21 : (Jvm.Cond.code ({ cls := "java/lang/AbstractStringBuilder", name := "newCapacity", desc := "(I)I" } : Jvm.MethodName) jdk_68_method_10_code (6 : Nat) (Option.some Jvm.ClassFile.FieldType.int)).before args0 about1 = true := code_word (m := ⟨11, 4⟩) (meth := k11m4) (c := k11c4) (by decide +kernel) rfl rfl rfl (by decide +kernel)
set_option maxRecDepth 65536 in
theorem w_c22 : (Jvm.Cond.code ({ cls := "jdk/internal/util/ArraysSupport", name := "newLength", desc := "(III)I" } : Jvm.MethodName) jdk_48_method_27_code (4 : Nat) (Option.some Jvm.ClassFile.FieldType.int)).before args0 about1 = true := code_word (m := ⟨15, 1⟩) (meth := k15m1) (c := k15c1) (by decide +kernel) rfl rfl rfl (by decide +kernel)
set_option maxRecDepth 65536 in
theorem w_c23 : (Jvm.Cond.code ({ cls := "java/lang/Math", name := "max", desc := "(II)I" } : Jvm.MethodName) jdk_29_method_65_code (2 : Nat) (Option.some Jvm.ClassFile.FieldType.int)).before args0 about1 = true := code_word (m := ⟨16, 1⟩) (meth := k16m1) (c := k16c1) (by decide +kernel) rfl rfl rfl (by decide +kernel)
set_option maxRecDepth 65536 in
theorem w_c24 : (Jvm.Cond.code ({ cls := "java/util/Arrays", name := "copyOf", desc := "([BI)[B" } : Jvm.MethodName) jdk_65_method_121_code (3 : Nat) (Option.some (Jvm.ClassFile.FieldType.array Jvm.ClassFile.FieldType.byte))).before args0 about1 = true := code_word (m := ⟨17, 1⟩) (meth := k17m1) (c := k17c1) (by decide +kernel) rfl rfl rfl (by decide +kernel)
set_option maxRecDepth 65536 in
theorem w_c25 : (Jvm.Cond.code ({ cls := "java/lang/Math", name := "min", desc := "(II)I" } : Jvm.MethodName) jdk_29_method_69_code (2 : Nat) (Option.some Jvm.ClassFile.FieldType.int)).before args0 about1 = true := code_word (m := ⟨16, 2⟩) (meth := k16m2) (c := k16c2) (by decide +kernel) rfl rfl rfl (by decide +kernel)
set_option maxRecDepth 65536 in
theorem w_c26 : (Jvm.Cond.code ({ cls := "java/lang/AbstractStringBuilder", name := "putStringAt", desc := "(ILjava/lang/String;)V" } : Jvm.MethodName) jdk_68_method_73_code (3 : Nat) (Option.none : Option Jvm.ClassFile.FieldType)).before args0 about1 = true := code_word (m := ⟨11, 11⟩) (meth := k11m11) (c := k11c11) (by decide +kernel) rfl rfl rfl (by decide +kernel)
set_option maxRecDepth 65536 in
theorem w_c27 : (Jvm.Cond.code ({ cls := "java/lang/AbstractStringBuilder", name := "inflateIfNeededFor", desc := "(Ljava/lang/String;)V" } : Jvm.MethodName) jdk_68_method_71_code (2 : Nat) (Option.none : Option Jvm.ClassFile.FieldType)).before args0 about1 = true := code_word (m := ⟨11, 10⟩) (meth := k11m10) (c := k11c10) (by decide +kernel) rfl rfl rfl (by decide +kernel)
set_option maxRecDepth 65536 in
theorem w_c28 : (Jvm.Cond.code ({ cls := "java/lang/String", name := "getBytes", desc := "([BIB)V" } : Jvm.MethodName) jdk_42_method_147_code (4 : Nat) (Option.none : Option Jvm.ClassFile.FieldType)).before args0 about1 = true := code_word (m := ⟨7, 5⟩) (meth := k7m5) (c := k7c5) (by decide +kernel) rfl rfl rfl (by decide +kernel)
set_option maxRecDepth 65536 in
theorem w_c29 : (Jvm.Cond.code ({ cls := "java/lang/StringBuilder", name := "toString", desc := "()Ljava/lang/String;" } : Jvm.MethodName) jdk_67_method_42_code (1 : Nat) (Option.some (Jvm.ClassFile.FieldType.object "java/lang/String"))).before args0 about1 = true := code_word (m := ⟨12, 4⟩) (meth := k12m4) (c := k12c4) (by decide +kernel) rfl rfl rfl (by decide +kernel)
set_option maxRecDepth 65536 in
theorem w_c30 : (Jvm.Cond.code ({ cls := "java/lang/String", name := "<init>", desc := "(Ljava/lang/StringBuilder;)V" } : Jvm.MethodName) jdk_42_method_53_code (2 : Nat) (Option.none : Option Jvm.ClassFile.FieldType)).before args0 about1 = true := code_word (m := ⟨7, 2⟩) (meth := k7m2) (c := k7c2) (by decide +kernel) rfl rfl rfl (by decide +kernel)
set_option maxRecDepth 65536 in
theorem w_c31 : (Jvm.Cond.code ({ cls := "java/lang/String", name := "<init>", desc := "(Ljava/lang/AbstractStringBuilder;Ljava/lang/Void;)V" } : Jvm.MethodName) jdk_42_method_150_code (5 : Nat) (Option.none : Option Jvm.ClassFile.FieldType)).before args0 about1 = true := code_word (m := ⟨7, 7⟩) (meth := k7m7) (c := k7c7) (by decide +kernel) rfl rfl rfl (by decide +kernel)
set_option maxRecDepth 65536 in
theorem w_c32 : (Jvm.Cond.code ({ cls := "java/lang/AbstractStringBuilder", name := "getValue", desc := "()[B" } : Jvm.MethodName) jdk_68_method_64_code (1 : Nat) (Option.some (Jvm.ClassFile.FieldType.array Jvm.ClassFile.FieldType.byte))).before args0 about1 = true := code_word (m := ⟨11, 8⟩) (meth := k11m8) (c := k11c8) (by decide +kernel) rfl rfl rfl (by decide +kernel)
set_option maxRecDepth 65536 in
theorem w_c33 : (Jvm.Cond.code ({ cls := "java/lang/StringBuilder", name := "length", desc := "()I" } : Jvm.MethodName) jdk_67_method_93_code (1 : Nat) (Option.some Jvm.ClassFile.FieldType.int)).before args0 about1 = true := code_word (m := ⟨12, 5⟩) (meth := k12m5) (c := k12c5) (by decide +kernel) rfl rfl rfl (by decide +kernel)
set_option maxRecDepth 65536 in
theorem w_c34 : (Jvm.Cond.code ({ cls := "java/lang/AbstractStringBuilder", name := "length", desc := "()I" } : Jvm.MethodName) jdk_68_method_6_code (1 : Nat) (Option.some Jvm.ClassFile.FieldType.int)).before args0 about1 = true := code_word (m := ⟨11, 2⟩) (meth := k11m2) (c := k11c2) (by decide +kernel) rfl rfl rfl (by decide +kernel)
set_option maxRecDepth 65536 in
theorem w_c35 : (Jvm.Cond.code ({ cls := "java/lang/AbstractStringBuilder", name := "isLatin1", desc := "()Z" } : Jvm.MethodName) jdk_68_method_68_code (1 : Nat) (Option.some Jvm.ClassFile.FieldType.boolean)).before args0 about1 = true := code_word (m := ⟨11, 9⟩) (meth := k11m9) (c := k11c9) (by decide +kernel) rfl rfl rfl (by decide +kernel)
set_option maxRecDepth 65536 in
theorem w_c36 : (Jvm.Cond.code ({ cls := "java/util/Arrays", name := "copyOfRange", desc := "([BII)[B" } : Jvm.MethodName) jdk_65_method_132_code (3 : Nat) (Option.some (Jvm.ClassFile.FieldType.array Jvm.ClassFile.FieldType.byte))).before args0 about1 = true := code_word (m := ⟨17, 3⟩) (meth := k17m3) (c := k17c3) (by decide +kernel) rfl rfl rfl (by decide +kernel)
set_option maxRecDepth 65536 in
theorem w_c37 : (Jvm.Cond.code ({ cls := "java/util/Arrays", name := "copyOfRangeByte", desc := "([BII)[B" } : Jvm.MethodName) jdk_65_method_133_code (5 : Nat) (Option.some (Jvm.ClassFile.FieldType.array Jvm.ClassFile.FieldType.byte))).before args0 about1 = true := code_word (m := ⟨17, 4⟩) (meth := k17m4) (c := k17c4) (by decide +kernel) rfl rfl rfl (by decide +kernel)
set_option maxRecDepth 65536 in
theorem w_c38 : (Jvm.Cond.code ({ cls := "java/util/Arrays", name := "checkLength", desc := "(II)V" } : Jvm.MethodName) jdk_65_method_131_code (2 : Nat) (Option.none : Option Jvm.ClassFile.FieldType)).before args0 about1 = true := code_word (m := ⟨17, 2⟩) (meth := k17m2) (c := k17c2) (by decide +kernel) rfl rfl rfl (by decide +kernel)
set_option maxRecDepth 65536 in
theorem w_c39 : (Jvm.Cond.code ({ cls := "com/example/qedbox/qedbox/cli/TupleLinesEscapePinLaw", name := "step", desc := "(Ljava/lang/String;IC)I" } : Jvm.MethodName) method_3_code (4 : Nat) (Option.some Jvm.ClassFile.FieldType.int)).before args0 about1 = true := code_word (m := ⟨1, 2⟩) (meth := k1m2) (c := k1c2) (by decide +kernel) rfl rfl rfl (by decide +kernel)
set_option maxRecDepth 65536 in
theorem w_c40 : (Jvm.Cond.code ({ cls := "java/lang/StringBuilder", name := "append", desc := "(C)Ljava/lang/StringBuilder;" } : Jvm.MethodName) jdk_67_method_14_code (2 : Nat) (Option.some (Jvm.ClassFile.FieldType.object "java/lang/StringBuilder"))).before args0 about1 = true := code_word (m := ⟨12, 3⟩) (meth := k12m3) (c := k12c3) (by decide +kernel) rfl rfl rfl (by decide +kernel)
set_option maxRecDepth 65536 in
theorem w_c41 : (Jvm.Cond.code ({ cls := "java/lang/AbstractStringBuilder", name := "append", desc := "(C)Ljava/lang/AbstractStringBuilder;" } : Jvm.MethodName) jdk_68_method_31_code (2 : Nat) (Option.some (Jvm.ClassFile.FieldType.object "java/lang/AbstractStringBuilder"))).before args0 about1 = true := code_word (m := ⟨11, 7⟩) (meth := k11m7) (c := k11c7) (by decide +kernel) rfl rfl rfl (by decide +kernel)
set_option maxRecDepth 65536 in
theorem w_c42 : (Jvm.Cond.code ({ cls := "java/lang/StringLatin1", name := "canEncode", desc := "(C)Z" } : Jvm.MethodName) jdk_43_method_3_code (1 : Nat) (Option.some Jvm.ClassFile.FieldType.boolean)).before args0 about1 = true := code_word (m := ⟨13, 2⟩) (meth := k13m2) (c := k13c2) (by decide +kernel) rfl rfl rfl (by decide +kernel)
set_option maxRecDepth 65536 in
theorem w_c43 : (Jvm.Cond.code ({ cls := "java/lang/StringUTF16", name := "toBytes", desc := "([CII)[B" } : Jvm.MethodName) jdk_52_method_14_code (5 : Nat) (Option.some (Jvm.ClassFile.FieldType.array Jvm.ClassFile.FieldType.byte))).before args0 about1 = true := code_word (m := ⟨8, 6⟩) (meth := k8m6) (c := k8c6) (by decide +kernel) rfl rfl rfl (by decide +kernel)
set_option maxRecDepth 65536 in
theorem w_c44 : (Jvm.Cond.code ({ cls := "java/lang/StringUTF16", name := "newBytesFor", desc := "(I)[B" } : Jvm.MethodName) jdk_52_method_2_code (1 : Nat) (Option.some (Jvm.ClassFile.FieldType.array Jvm.ClassFile.FieldType.byte))).before args0 about1 = true := code_word (m := ⟨8, 1⟩) (meth := k8m1) (c := k8c1) (by decide +kernel) rfl rfl rfl (by decide +kernel)
set_option maxRecDepth 65536 in
theorem w_c45 : (Jvm.Cond.code ({ cls := "java/lang/StringUTF16", name := "newBytesLength", desc := "(I)I" } : Jvm.MethodName) jdk_52_method_3_code (1 : Nat) (Option.some Jvm.ClassFile.FieldType.int)).before args0 about1 = true := code_word (m := ⟨8, 2⟩) (meth := k8m2) (c := k8c2) (by decide +kernel) rfl rfl rfl (by decide +kernel)
set_option maxRecDepth 65536 in
theorem w_c46 : (Jvm.Cond.code ({ cls := "java/lang/StringUTF16", name := "putChar", desc := "([BII)V" } : Jvm.MethodName) jdk_52_method_4_code (3 : Nat) (Option.none : Option Jvm.ClassFile.FieldType)).before args0 about1 = true := code_word (m := ⟨8, 3⟩) (meth := k8m3) (c := k8c3) (by decide +kernel) rfl rfl rfl (by decide +kernel)
set_option maxRecDepth 65536 in
theorem w_c47 : (Jvm.Cond.code ({ cls := "java/lang/StringUTF16", name := "getChar", desc := "([BI)C" } : Jvm.MethodName) jdk_52_method_5_code (2 : Nat) (Option.some Jvm.ClassFile.FieldType.char)).before args0 about1 = true := code_word (m := ⟨8, 4⟩) (meth := k8m4) (c := k8c4) (by decide +kernel) rfl rfl rfl (by decide +kernel)
set_option maxRecDepth 65536 in
theorem w_c48 : (Jvm.Cond.code ({ cls := "java/lang/StringUTF16", name := "charAt", desc := "([BI)C" } : Jvm.MethodName) jdk_52_method_83_code (2 : Nat) (Option.some Jvm.ClassFile.FieldType.char)).before args0 about1 = true := code_word (m := ⟨8, 11⟩) (meth := k8m11) (c := k8c11) (by decide +kernel) rfl rfl rfl (by decide +kernel)
set_option maxRecDepth 65536 in
theorem w_c49 : (Jvm.Cond.code ({ cls := "java/lang/StringUTF16", name := "checkIndex", desc := "(I[B)V" } : Jvm.MethodName) jdk_52_method_91_code (2 : Nat) (Option.none : Option Jvm.ClassFile.FieldType)).before args0 about1 = true := code_word (m := ⟨8, 13⟩) (meth := k8m13) (c := k8c13) (by decide +kernel) rfl rfl rfl (by decide +kernel)
set_option maxRecDepth 65536 in
theorem w_c50 : (Jvm.Cond.code ({ cls := "java/lang/StringUTF16", name := "length", desc := "([B)I" } : Jvm.MethodName) jdk_52_method_6_code (1 : Nat) (Option.some Jvm.ClassFile.FieldType.int)).before args0 about1 = true := code_word (m := ⟨8, 5⟩) (meth := k8m5) (c := k8c5) (by decide +kernel) rfl rfl rfl (by decide +kernel)
set_option maxRecDepth 65536 in
theorem w_c51 : (Jvm.Cond.code ({ cls := "java/lang/AbstractStringBuilder", name := "inflate", desc := "()V" } : Jvm.MethodName) jdk_68_method_11_code (2 : Nat) (Option.none : Option Jvm.ClassFile.FieldType)).before args0 about1 = true := code_word (m := ⟨11, 5⟩) (meth := k11m5) (c := k11c5) (by decide +kernel) rfl rfl rfl (by decide +kernel)
set_option maxRecDepth 65536 in
theorem w_c52 : (Jvm.Cond.code ({ cls := "java/lang/StringLatin1", name := "inflate", desc := "([BI[BII)V" } : Jvm.MethodName) jdk_43_method_50_code (5 : Nat) (Option.none : Option Jvm.ClassFile.FieldType)).before args0 about1 = true := code_word (m := ⟨13, 3⟩) (meth := k13m3) (c := k13c3) (by decide +kernel) rfl rfl rfl (by decide +kernel)
set_option maxRecDepth 65536 in
theorem w_c53 : (Jvm.Cond.code ({ cls := "java/lang/StringUTF16", name := "inflate", desc := "([BI[BII)V" } : Jvm.MethodName) jdk_52_method_86_code (6 : Nat) (Option.none : Option Jvm.ClassFile.FieldType)).before args0 about1 = true := code_word (m := ⟨8, 12⟩) (meth := k8m12) (c := k8c12) (by decide +kernel) rfl rfl rfl (by decide +kernel)
set_option maxRecDepth 65536 in
theorem w_c54 : (Jvm.Cond.code ({ cls := "java/lang/StringUTF16", name := "checkBoundsOffCount", desc := "(II[B)V" } : Jvm.MethodName) jdk_52_method_94_code (3 : Nat) (Option.none : Option Jvm.ClassFile.FieldType)).before args0 about1 = true := code_word (m := ⟨8, 14⟩) (meth := k8m14) (c := k8c14) (by decide +kernel) rfl rfl rfl (by decide +kernel)
set_option maxRecDepth 65536 in
theorem w_c55 : (Jvm.Cond.code ({ cls := "java/lang/String", name := "checkBoundsOffCount", desc := "(III)I" } : Jvm.MethodName) jdk_42_method_157_code (3 : Nat) (Option.some Jvm.ClassFile.FieldType.int)).before args0 about1 = true := code_word (m := ⟨7, 11⟩) (meth := k7m11) (c := k7c11) (by decide +kernel) rfl rfl rfl (by decide +kernel)
set_option maxRecDepth 65536 in
theorem w_c56 : (Jvm.Cond.code ({ cls := "jdk/internal/util/Preconditions", name := "checkFromIndexSize", desc := "(IIILjava/util/function/BiFunction;)I" } : Jvm.MethodName) jdk_41_method_13_code (4 : Nat) (Option.some Jvm.ClassFile.FieldType.int)).before args0 about1 = true := code_word (m := ⟨14, 2⟩) (meth := k14m2) (c := k14c2) (by decide +kernel) rfl rfl rfl (by decide +kernel)
set_option maxRecDepth 65536 in
theorem w_c57 : (Jvm.Cond.code ({ cls := "java/lang/StringUTF16", name := "putCharSB", desc := "([BII)V" } : Jvm.MethodName) jdk_52_method_71_code (3 : Nat) (Option.none : Option Jvm.ClassFile.FieldType)).before args0 about1 = true := code_word (m := ⟨8, 10⟩) (meth := k8m10) (c := k8c10) (by decide +kernel) rfl rfl rfl (by decide +kernel)
def codes1 : List Jvm.Cond := [Jvm.Cond.code x code maxLocals ret, Jvm.Cond.code ({ cls := "com/example/qedbox/qedbox/cli/TupleLinesEscapePinLaw", name := "pick", desc := "(I)C" } : Jvm.MethodName) method_2_code (2 : Nat) (Option.some Jvm.ClassFile.FieldType.char), Jvm.Cond.code ({ cls := "java/lang/String", name := "<init>", desc := "([C)V" } : Jvm.MethodName) jdk_42_method_3_code (2 : Nat) (Option.none : Option Jvm.ClassFile.FieldType), Jvm.Cond.code ({ cls := "java/lang/String", name := "<init>", desc := "([CIILjava/lang/Void;)V" } : Jvm.MethodName) jdk_42_method_149_code (6 : Nat) (Option.none : Option Jvm.ClassFile.FieldType), Jvm.Cond.code ({ cls := "java/lang/Object", name := "<init>", desc := "()V" } : Jvm.MethodName) object_method_1_code (1 : Nat) (Option.none : Option Jvm.ClassFile.FieldType), Jvm.Cond.code ({ cls := "java/lang/StringUTF16", name := "compress", desc := "([CII)[B" } : Jvm.MethodName) jdk_52_method_16_code (6 : Nat) (Option.some (Jvm.ClassFile.FieldType.array Jvm.ClassFile.FieldType.byte)), Jvm.Cond.code ({ cls := "java/lang/StringUTF16", name := "compress", desc := "([CI[BII)I" } : Jvm.MethodName) jdk_52_method_21_code (7 : Nat) (Option.some Jvm.ClassFile.FieldType.int), Jvm.Cond.code ({ cls := "java/lang/StringUTF16", name := "coderFromArrayLen", desc := "([BI)B" } : Jvm.MethodName) jdk_52_method_15_code (2 : Nat) (Option.some Jvm.ClassFile.FieldType.byte), Jvm.Cond.code ({ cls := "com/example/qedbox/qedbox/cli/TupleLines", name := "escape", desc := "(Ljava/lang/String;)Ljava/lang/String;" } : Jvm.MethodName) prog_41_method_4_code (4 : Nat) (Option.some (Jvm.ClassFile.FieldType.object "java/lang/String")), Jvm.Cond.code ({ cls := "java/lang/String", name := "length", desc := "()I" } : Jvm.MethodName) jdk_42_method_54_code (1 : Nat) (Option.some Jvm.ClassFile.FieldType.int), Jvm.Cond.code ({ cls := "java/lang/String", name := "coder", desc := "()B" } : Jvm.MethodName) jdk_42_method_152_code (1 : Nat) (Option.some Jvm.ClassFile.FieldType.byte), Jvm.Cond.code ({ cls := "java/lang/StringBuilder", name := "<init>", desc := "(I)V" } : Jvm.MethodName) jdk_67_method_2_code (2 : Nat) (Option.none : Option Jvm.ClassFile.FieldType), Jvm.Cond.code ({ cls := "java/lang/AbstractStringBuilder", name := "<init>", desc := "(I)V" } : Jvm.MethodName) jdk_68_method_2_code (2 : Nat) (Option.none : Option Jvm.ClassFile.FieldType), Jvm.Cond.code ({ cls := "java/lang/String", name := "charAt", desc := "(I)C" } : Jvm.MethodName) jdk_42_method_56_code (2 : Nat) (Option.some Jvm.ClassFile.FieldType.char), Jvm.Cond.code ({ cls := "java/lang/String", name := "isLatin1", desc := "()Z" } : Jvm.MethodName) jdk_42_method_154_code (1 : Nat) (Option.some Jvm.ClassFile.FieldType.boolean), Jvm.Cond.code ({ cls := "java/lang/StringLatin1", name := "charAt", desc := "([BI)C" } : Jvm.MethodName) jdk_43_method_2_code (2 : Nat) (Option.some Jvm.ClassFile.FieldType.char), Jvm.Cond.code ({ cls := "java/lang/String", name := "checkIndex", desc := "(II)V" } : Jvm.MethodName) jdk_42_method_155_code (2 : Nat) (Option.none : Option Jvm.ClassFile.FieldType), Jvm.Cond.code ({ cls := "jdk/internal/util/Preconditions", name := "checkIndex", desc := "(IILjava/util/function/BiFunction;)I" } : Jvm.MethodName) jdk_41_method_11_code (3 : Nat) (Option.some Jvm.ClassFile.FieldType.int), Jvm.Cond.code ({ cls := "java/lang/StringBuilder", name := "append", desc := "(Ljava/lang/String;)Ljava/lang/StringBuilder;" } : Jvm.MethodName) jdk_67_method_7_code (2 : Nat) (Option.some (Jvm.ClassFile.FieldType.object "java/lang/StringBuilder")), Jvm.Cond.code ({ cls := "java/lang/AbstractStringBuilder", name := "append", desc := "(Ljava/lang/String;)Ljava/lang/AbstractStringBuilder;" } : Jvm.MethodName) jdk_68_method_22_code (3 : Nat) (Option.some (Jvm.ClassFile.FieldType.object "java/lang/AbstractStringBuilder")), Jvm.Cond.code ({ cls := "java/lang/AbstractStringBuilder", name := "ensureCapacityInternal", desc := "(I)V" } : Jvm.MethodName) jdk_68_method_9_code (3 : Nat) (Option.none : Option Jvm.ClassFile.FieldType), Jvm.Cond.code ({ cls := "java/lang/AbstractStringBuilder", name := "newCapacity", desc := "(I)I" } : Jvm.MethodName) jdk_68_method_10_code (6 : Nat) (Option.some Jvm.ClassFile.FieldType.int), Jvm.Cond.code ({ cls := "jdk/internal/util/ArraysSupport", name := "newLength", desc := "(III)I" } : Jvm.MethodName) jdk_48_method_27_code (4 : Nat) (Option.some Jvm.ClassFile.FieldType.int), Jvm.Cond.code ({ cls := "java/lang/Math", name := "max", desc := "(II)I" } : Jvm.MethodName) jdk_29_method_65_code (2 : Nat) (Option.some Jvm.ClassFile.FieldType.int), Jvm.Cond.code ({ cls := "java/util/Arrays", name := "copyOf", desc := "([BI)[B" } : Jvm.MethodName) jdk_65_method_121_code (3 : Nat) (Option.some (Jvm.ClassFile.FieldType.array Jvm.ClassFile.FieldType.byte)), Jvm.Cond.code ({ cls := "java/lang/Math", name := "min", desc := "(II)I" } : Jvm.MethodName) jdk_29_method_69_code (2 : Nat) (Option.some Jvm.ClassFile.FieldType.int), Jvm.Cond.code ({ cls := "java/lang/AbstractStringBuilder", name := "putStringAt", desc := "(ILjava/lang/String;)V" } : Jvm.MethodName) jdk_68_method_73_code (3 : Nat) (Option.none : Option Jvm.ClassFile.FieldType), Jvm.Cond.code ({ cls := "java/lang/AbstractStringBuilder", name := "inflateIfNeededFor", desc := "(Ljava/lang/String;)V" } : Jvm.MethodName) jdk_68_method_71_code (2 : Nat) (Option.none : Option Jvm.ClassFile.FieldType), Jvm.Cond.code ({ cls := "java/lang/String", name := "getBytes", desc := "([BIB)V" } : Jvm.MethodName) jdk_42_method_147_code (4 : Nat) (Option.none : Option Jvm.ClassFile.FieldType), Jvm.Cond.code ({ cls := "java/lang/StringBuilder", name := "toString", desc := "()Ljava/lang/String;" } : Jvm.MethodName) jdk_67_method_42_code (1 : Nat) (Option.some (Jvm.ClassFile.FieldType.object "java/lang/String")), Jvm.Cond.code ({ cls := "java/lang/String", name := "<init>", desc := "(Ljava/lang/StringBuilder;)V" } : Jvm.MethodName) jdk_42_method_53_code (2 : Nat) (Option.none : Option Jvm.ClassFile.FieldType), Jvm.Cond.code ({ cls := "java/lang/String", name := "<init>", desc := "(Ljava/lang/AbstractStringBuilder;Ljava/lang/Void;)V" } : Jvm.MethodName) jdk_42_method_150_code (5 : Nat) (Option.none : Option Jvm.ClassFile.FieldType), Jvm.Cond.code ({ cls := "java/lang/AbstractStringBuilder", name := "getValue", desc := "()[B" } : Jvm.MethodName) jdk_68_method_64_code (1 : Nat) (Option.some (Jvm.ClassFile.FieldType.array Jvm.ClassFile.FieldType.byte)), Jvm.Cond.code ({ cls := "java/lang/StringBuilder", name := "length", desc := "()I" } : Jvm.MethodName) jdk_67_method_93_code (1 : Nat) (Option.some Jvm.ClassFile.FieldType.int), Jvm.Cond.code ({ cls := "java/lang/AbstractStringBuilder", name := "length", desc := "()I" } : Jvm.MethodName) jdk_68_method_6_code (1 : Nat) (Option.some Jvm.ClassFile.FieldType.int), Jvm.Cond.code ({ cls := "java/lang/AbstractStringBuilder", name := "isLatin1", desc := "()Z" } : Jvm.MethodName) jdk_68_method_68_code (1 : Nat) (Option.some Jvm.ClassFile.FieldType.boolean), Jvm.Cond.code ({ cls := "java/util/Arrays", name := "copyOfRange", desc := "([BII)[B" } : Jvm.MethodName) jdk_65_method_132_code (3 : Nat) (Option.some (Jvm.ClassFile.FieldType.array Jvm.ClassFile.FieldType.byte)), Jvm.Cond.code ({ cls := "java/util/Arrays", name := "copyOfRangeByte", desc := "([BII)[B" } : Jvm.MethodName) jdk_65_method_133_code (5 : Nat) (Option.some (Jvm.ClassFile.FieldType.array Jvm.ClassFile.FieldType.byte)), Jvm.Cond.code ({ cls := "java/util/Arrays", name := "checkLength", desc := "(II)V" } : Jvm.MethodName) jdk_65_method_131_code (2 : Nat) (Option.none : Option Jvm.ClassFile.FieldType), Jvm.Cond.code ({ cls := "com/example/qedbox/qedbox/cli/TupleLinesEscapePinLaw", name := "step", desc := "(Ljava/lang/String;IC)I" } : Jvm.MethodName) method_3_code (4 : Nat) (Option.some Jvm.ClassFile.FieldType.int), Jvm.Cond.code ({ cls := "java/lang/StringBuilder", name := "append", desc := "(C)Ljava/lang/StringBuilder;" } : Jvm.MethodName) jdk_67_method_14_code (2 : Nat) (Option.some (Jvm.ClassFile.FieldType.object "java/lang/StringBuilder")), Jvm.Cond.code ({ cls := "java/lang/AbstractStringBuilder", name := "append", desc := "(C)Ljava/lang/AbstractStringBuilder;" } : Jvm.MethodName) jdk_68_method_31_code (2 : Nat) (Option.some (Jvm.ClassFile.FieldType.object "java/lang/AbstractStringBuilder")), Jvm.Cond.code ({ cls := "java/lang/StringLatin1", name := "canEncode", desc := "(C)Z" } : Jvm.MethodName) jdk_43_method_3_code (1 : Nat) (Option.some Jvm.ClassFile.FieldType.boolean), Jvm.Cond.code ({ cls := "java/lang/StringUTF16", name := "toBytes", desc := "([CII)[B" } : Jvm.MethodName) jdk_52_method_14_code (5 : Nat) (Option.some (Jvm.ClassFile.FieldType.array Jvm.ClassFile.FieldType.byte)), Jvm.Cond.code ({ cls := "java/lang/StringUTF16", name := "newBytesFor", desc := "(I)[B" } : Jvm.MethodName) jdk_52_method_2_code (1 : Nat) (Option.some (Jvm.ClassFile.FieldType.array Jvm.ClassFile.FieldType.byte)), Jvm.Cond.code ({ cls := "java/lang/StringUTF16", name := "newBytesLength", desc := "(I)I" } : Jvm.MethodName) jdk_52_method_3_code (1 : Nat) (Option.some Jvm.ClassFile.FieldType.int), Jvm.Cond.code ({ cls := "java/lang/StringUTF16", name := "putChar", desc := "([BII)V" } : Jvm.MethodName) jdk_52_method_4_code (3 : Nat) (Option.none : Option Jvm.ClassFile.FieldType), Jvm.Cond.code ({ cls := "java/lang/StringUTF16", name := "getChar", desc := "([BI)C" } : Jvm.MethodName) jdk_52_method_5_code (2 : Nat) (Option.some Jvm.ClassFile.FieldType.char), Jvm.Cond.code ({ cls := "java/lang/StringUTF16", name := "charAt", desc := "([BI)C" } : Jvm.MethodName) jdk_52_method_83_code (2 : Nat) (Option.some Jvm.ClassFile.FieldType.char), Jvm.Cond.code ({ cls := "java/lang/StringUTF16", name := "checkIndex", desc := "(I[B)V" } : Jvm.MethodName) jdk_52_method_91_code (2 : Nat) (Option.none : Option Jvm.ClassFile.FieldType), Jvm.Cond.code ({ cls := "java/lang/StringUTF16", name := "length", desc := "([B)I" } : Jvm.MethodName) jdk_52_method_6_code (1 : Nat) (Option.some Jvm.ClassFile.FieldType.int), Jvm.Cond.code ({ cls := "java/lang/AbstractStringBuilder", name := "inflate", desc := "()V" } : Jvm.MethodName) jdk_68_method_11_code (2 : Nat) (Option.none : Option Jvm.ClassFile.FieldType), Jvm.Cond.code ({ cls := "java/lang/StringLatin1", name := "inflate", desc := "([BI[BII)V" } : Jvm.MethodName) jdk_43_method_50_code (5 : Nat) (Option.none : Option Jvm.ClassFile.FieldType), Jvm.Cond.code ({ cls := "java/lang/StringUTF16", name := "inflate", desc := "([BI[BII)V" } : Jvm.MethodName) jdk_52_method_86_code (6 : Nat) (Option.none : Option Jvm.ClassFile.FieldType), Jvm.Cond.code ({ cls := "java/lang/StringUTF16", name := "checkBoundsOffCount", desc := "(II[B)V" } : Jvm.MethodName) jdk_52_method_94_code (3 : Nat) (Option.none : Option Jvm.ClassFile.FieldType), Jvm.Cond.code ({ cls := "java/lang/String", name := "checkBoundsOffCount", desc := "(III)I" } : Jvm.MethodName) jdk_42_method_157_code (3 : Nat) (Option.some Jvm.ClassFile.FieldType.int), Jvm.Cond.code ({ cls := "jdk/internal/util/Preconditions", name := "checkFromIndexSize", desc := "(IIILjava/util/function/BiFunction;)I" } : Jvm.MethodName) jdk_41_method_13_code (4 : Nat) (Option.some Jvm.ClassFile.FieldType.int), Jvm.Cond.code ({ cls := "java/lang/StringUTF16", name := "putCharSB", desc := "([BII)V" } : Jvm.MethodName) jdk_52_method_71_code (3 : Nat) (Option.none : Option Jvm.ClassFile.FieldType)]
set_option maxRecDepth 65536 in
theorem codes_eq : words1.filter isCode = codes1 := rfl
theorem w_codes : ∀ c ∈ words1.filter isCode, c.before args0 about1 = true := by
  rw [codes_eq]
  intro c hc
  simp only [codes1, List.mem_cons, List.not_mem_nil, or_false] at hc
  rcases hc with rfl | rfl | rfl | rfl | rfl | rfl | rfl | rfl | rfl | rfl | rfl | rfl | rfl | rfl | rfl | rfl | rfl | rfl | rfl | rfl | rfl | rfl | rfl | rfl | rfl | rfl | rfl | rfl | rfl | rfl | rfl | rfl | rfl | rfl | rfl | rfl | rfl | rfl | rfl | rfl | rfl | rfl | rfl | rfl | rfl | rfl | rfl | rfl | rfl | rfl | rfl | rfl | rfl | rfl | rfl | rfl | rfl | rfl
  · exact w_c0
  · exact w_c1
  · exact w_c2
  · exact w_c3
  · exact w_c4
  · exact w_c5
  · exact w_c6
  · exact w_c7
  · exact w_c8
  · exact w_c9
  · exact w_c10
  · exact w_c11
  · exact w_c12
  · exact w_c13
  · exact w_c14
  · exact w_c15
  · exact w_c16
  · exact w_c17
  · exact w_c18
  · exact w_c19
  · exact w_c20
  · exact w_c21
  · exact w_c22
  · exact w_c23
  · exact w_c24
  · exact w_c25
  · exact w_c26
  · exact w_c27
  · exact w_c28
  · exact w_c29
  · exact w_c30
  · exact w_c31
  · exact w_c32
  · exact w_c33
  · exact w_c34
  · exact w_c35
  · exact w_c36
  · exact w_c37
  · exact w_c38
  · exact w_c39
  · exact w_c40
  · exact w_c41
  · exact w_c42
  · exact w_c43
  · exact w_c44
  · exact w_c45
  · exact w_c46
  · exact w_c47
  · exact w_c48
  · exact w_c49
  · exact w_c50
  · exact w_c51
  · exact w_c52
  · exact w_c53
  · exact w_c54
  · exact w_c55
  · exact w_c56
  · exact w_c57
set_option maxRecDepth 65536 in
theorem w_t1 : (words1.take 24).all (fun c => isCode c || c.before args0 about1) = true := by decide +kernel
set_option maxRecDepth 65536 in
theorem w_t2 : ((words1.drop 24).take 24).all (fun c => isCode c || c.before args0 about1) = true := by decide +kernel
set_option maxRecDepth 65536 in
theorem w_t3 : (((words1.drop 24).drop 24).take 24).all (fun c => isCode c || c.before args0 about1) = true := by decide +kernel
set_option maxRecDepth 65536 in
theorem w_t4 : ((((words1.drop 24).drop 24).drop 24).take 24).all (fun c => isCode c || c.before args0 about1) = true := by decide +kernel
set_option maxRecDepth 65536 in
theorem w_t5 : (((((words1.drop 24).drop 24).drop 24).drop 24).take 24).all (fun c => isCode c || c.before args0 about1) = true := by decide +kernel
set_option maxRecDepth 65536 in
theorem w_t6 : ((((((words1.drop 24).drop 24).drop 24).drop 24).drop 24).take 24).all (fun c => isCode c || c.before args0 about1) = true := by decide +kernel
set_option maxRecDepth 65536 in
theorem w_t7 : (((((((words1.drop 24).drop 24).drop 24).drop 24).drop 24).drop 24).take 24).all (fun c => isCode c || c.before args0 about1) = true := by decide +kernel
set_option maxRecDepth 65536 in
theorem w_t8 : ((((((((words1.drop 24).drop 24).drop 24).drop 24).drop 24).drop 24).drop 24).take 24).all (fun c => isCode c || c.before args0 about1) = true := by decide +kernel
set_option maxRecDepth 65536 in
theorem w_t9 : (((((((((words1.drop 24).drop 24).drop 24).drop 24).drop 24).drop 24).drop 24).drop 24).take 24).all (fun c => isCode c || c.before args0 about1) = true := by decide +kernel
set_option maxRecDepth 65536 in
theorem w_t10 : ((((((((((words1.drop 24).drop 24).drop 24).drop 24).drop 24).drop 24).drop 24).drop 24).drop 24).take 24).all (fun c => isCode c || c.before args0 about1) = true := by decide +kernel
set_option maxRecDepth 65536 in
theorem w_t11 : (((((((((((words1.drop 24).drop 24).drop 24).drop 24).drop 24).drop 24).drop 24).drop 24).drop 24).drop 24).take 24).all (fun c => isCode c || c.before args0 about1) = true := by decide +kernel
set_option maxRecDepth 65536 in
theorem w_t12 : (((((((((((words1.drop 24).drop 24).drop 24).drop 24).drop 24).drop 24).drop 24).drop 24).drop 24).drop 24).drop 24).all (fun c => isCode c || c.before args0 about1) = true := by decide +kernel
theorem w_tables : (allAtoms (Jvm.Cond.code x code maxLocals ret :: tables_1)).before args0 about1 = true := by
  rw [allAtoms_all]
  show words1.all (fun c => c.before args0 about1) = true
  refine all_split ?_ w_codes
  rw [← List.take_append_drop 24 words1, List.all_append, w_t1, ← List.take_append_drop 24 (words1.drop 24), List.all_append, w_t2, ← List.take_append_drop 24 ((words1.drop 24).drop 24), List.all_append, w_t3, ← List.take_append_drop 24 (((words1.drop 24).drop 24).drop 24), List.all_append, w_t4, ← List.take_append_drop 24 ((((words1.drop 24).drop 24).drop 24).drop 24), List.all_append, w_t5, ← List.take_append_drop 24 (((((words1.drop 24).drop 24).drop 24).drop 24).drop 24), List.all_append, w_t6, ← List.take_append_drop 24 ((((((words1.drop 24).drop 24).drop 24).drop 24).drop 24).drop 24), List.all_append, w_t7, ← List.take_append_drop 24 (((((((words1.drop 24).drop 24).drop 24).drop 24).drop 24).drop 24).drop 24), List.all_append, w_t8, ← List.take_append_drop 24 ((((((((words1.drop 24).drop 24).drop 24).drop 24).drop 24).drop 24).drop 24).drop 24), List.all_append, w_t9, ← List.take_append_drop 24 (((((((((words1.drop 24).drop 24).drop 24).drop 24).drop 24).drop 24).drop 24).drop 24).drop 24), List.all_append, w_t10, ← List.take_append_drop 24 ((((((((((words1.drop 24).drop 24).drop 24).drop 24).drop 24).drop 24).drop 24).drop 24).drop 24).drop 24), List.all_append, w_t11, w_t12]
  rfl
set_option maxRecDepth 65536 in
theorem w_rest : rest_1_c.before args0 about1 = true := by decide +kernel
set_option maxRecDepth 65536 in
theorem w_case : (Jvm.Cond.and given_1 narrow_1).before args0 about1 = true := by decide +kernel
set_option maxRecDepth 65536 in
theorem w_consts : constsHeld consts_1 about1 := Jvm.Lit.constsHeldB_iff.mp (by decide +kernel)
theorem w_applies : (headSpec (Jvm.Cond.code x code maxLocals ret :: tables_1) room_1).applies x e0.platform about1 = true :=
  (Spec.applies_iff w_frames).mpr ⟨w_running, w_runnable, w_alone, w_named, w_hears, w_ripe, w_room, w_tables⟩
theorem atStart : AtStart classFile x code maxLocals ret World_1 tables_1 room_1 Calls_1 rest_1 Pre_1 launch0 p0 e0 about1 theMethod args0 below0 :=
  ⟨lists_1, trivial, launch0.admits_env _ _ _, launch0.least_env, fairChoices_fair.cas, fairChoices_fair.clock, w_frames, w_args, w_heap, w_applies, ⟨w_consts, trivial⟩, w_rest, w_case⟩
end start1
theorem witness_1 : WitnessClaimed_1 := ⟨start1.p0, start1.e0, start1.about1, start1.theMethod, start1.args0, start1.below0, start1.atStart⟩
end Jvm.Pilot.@@N@@
