import JvmDerived
import JvmDerived.Pilot.@@N@@Statement
import JvmDerived.Pilot.@@N@@Code
set_option linter.unusedVariables false
set_option linter.unusedSimpArgs false
namespace Jvm.Own
open Sem ClassFile Op Lib Jvm.Stand Jvm.Free Jvm.LawKit Jvm.RoadKit
/-- from the frame f over T the run ends in a return that Q speaks of -/
def Run (p : Program) (e : Env) (s : State) (below : List Frame) (Q : Option Value → Heap → List Loc → Prop) (cm sm : Nat) (T : State) (f : JFrame) : Prop :=
  ∃ s₂ o, Steps p.tables e below (T.setTop f) s₂ ∧ s₂.status = .running ∧ Ended s₂ below o ∧ ∃ v L, o = .returned v ∧ Q v s₂.heap L ∧ FrameEnd s o s₂ L cm sm
section Own
variable {p : Program} {l : Launch} {e : Env} {R : Room} {s : State} {m : MethodId} {args : Array Value} {below : List Frame} {meth : Method} {c : Code} {T : State} {locs : List Loc} {cells slots : Nat} {Q : Option Value → Heap → List Loc → Prop} {cm sm : Nat}
theorem go {T' : State} {f f' : JFrame} (st : ∀ target, Steps p.tables e below (T'.setTop f') target → Steps p.tables e below (T.setTop f) target) (k : Run p e s below Q cm sm T' f') : Run p e s below Q cm sm T f := by
  obtain ⟨s₂, o, h, r⟩ := k
  exact ⟨s₂, o, st _ h, r⟩
theorem retZ (X : Stand p l e R s m args below meth c T locs cells slots) (hx : p.tables.exec = Jvm.exec) {pc : Nat} {Ls : Array Slot} {z : Int32} {t : FieldType} {rest : List Value} (hret : meth.sig.returnType = some t) (ht : t = .boolean ∨ t = .byte ∨ t = .char ∨ t = .short)
    (hd : decode c.code pc = .ok (.ireturn, 1)) (hlk : meth.locks = false) (hc : cells ≤ cm) (hs : slots ≤ sm) (hq : Q (some (.int (nar t z))) T.heap locs) : Run p e s below Q cm sm T (mkF m pc Ls (.int z :: rest)) := by
  obtain ⟨fs, hr, hrun, hended, hW, hsame⟩ := X.leave (v := some (.int (nar t z))) (fun h => by rw [hret] at h; cases h) hlk
  exact ⟨_, _, retN X hx hret ht hd hr, hrun, hended, _, _, rfl, hq, ⟨_, rfl⟩, hW, hsame.mono hc hs⟩
theorem retW (X : Stand p l e R s m args below meth c T locs cells slots) (hx : p.tables.exec = Jvm.exec) {pc : Nat} {Ls : Array Slot} {w : Value} {t : FieldType} {i : Instr} {rest : List Value} (hret : meth.sig.returnType = some t) (hn : narrow t w = w)
    (hi : (i = .ireturn ∧ (t = .int ∨ t = .boolean ∨ t = .byte ∨ t = .char ∨ t = .short) ∧ ∃ z, w = .int z) ∨ (i = .lreturn ∧ t = .long ∧ ∃ z, w = .long z) ∨ (i = .dreturn ∧ t = .double ∧ ∃ z, w = .double z) ∨ (i = .freturn ∧ t = .float ∧ ∃ z, w = .float z) ∨ (i = .areturn ∧ t.isReference = true ∧ w.isRef = true))
    (hd : decode c.code pc = .ok (i, 1)) (hlk : meth.locks = false) (hc : cells ≤ cm) (hs : slots ≤ sm) (hq : Q (some w) T.heap locs) : Run p e s below Q cm sm T (mkF m pc Ls (w :: rest)) := by
  obtain ⟨fs, hr, hrun, hended, hW, hsame⟩ := X.leave (v := some w) (fun h => by rw [hret] at h; cases h) hlk
  exact ⟨_, _, retOut X hx hret hn hi hd hr, hrun, hended, _, _, rfl, hq, ⟨_, rfl⟩, hW, hsame.mono hc hs⟩
theorem retV (X : Stand p l e R s m args below meth c T locs cells slots) (hx : p.tables.exec = Jvm.exec) {pc : Nat} {Ls : Array Slot} (hret : meth.sig.returnType = none)
    (hd : decode c.code pc = .ok (.return_, 1)) (hlk : meth.locks = false) (hc : cells ≤ cm) (hs : slots ≤ sm) (hq : Q none T.heap locs) : Run p e s below Q cm sm T (mkF m pc Ls []) := by
  obtain ⟨fs, hr, hrun, hended, hW, hsame⟩ := X.leave (v := none) (fun _ => rfl) hlk
  exact ⟨_, _, X.returnOut hx hret hd hr, hrun, hended, _, _, rfl, hq, ⟨_, rfl⟩, hW, hsame.mono hc hs⟩
end Own
section Heap
variable {Z : State} {h h' h0 : Heap} {a b : Addr} {ty : FieldType} {vs : List Value} {ws ws' : List Addr} {v : Value} {k : ClassId} {z j : Int32}
/-- an array and all that it holds -/
def Ary (Z : State) (h : Heap) (a : Addr) (ty : FieldType) (vs : List Value) : Prop := ∃ c : Cell, Arr Z h a c ty ∧ c.slots.toList = vs ∧ vs.length < 2147483648 ∧ ∀ v ∈ vs, fits ty v = true
theorem Ary.lt (A : Ary Z h a ty vs) : a < h.size := by obtain ⟨c, A, -⟩ := A; exact A.lt
theorem Ary.ext (A : Ary Z h a ty vs) (E : Ext h h') : Ary Z h' a ty vs := by obtain ⟨c, A, r⟩ := A; exact ⟨c, A.ext E, r⟩
theorem Ary.keep (A : Ary Z h a ty vs) (K : Keep h h' ws) (q : a ∉ ws) : Ary Z h' a ty vs := by obtain ⟨c, A, r⟩ := A; exact ⟨c, ⟨K.2.1 a c A.1 q, A.2⟩, r⟩
theorem Ary.set (A : Ary Z h a ty vs) {i : Nat} (W : Wr h h' a i v) (hv : fits ty v = true) : Ary Z h' a ty (vs.set i v) := by
  obtain ⟨c, A, e, l, f⟩ := A
  refine ⟨_, A.same W, by simp [Cell.setSlot, e], by simpa using l, fun w hw => ?_⟩
  rcases List.mem_or_eq_of_mem_set hw with q | rfl
  · exact f w q
  · exact hv
theorem Ary.ld (A : Ary Z h a ty vs) (hj : ¬ j < 0) (hv : vs[j.toNatClampNeg]? = some v) : ∃ c : Cell, Arr Z h a c ty ∧ ¬ (j < 0 ∨ c.slots.size ≤ j.toNatClampNeg) ∧ c.slots[j.toNatClampNeg]? = some v := by
  obtain ⟨c, A, e, l, f⟩ := A
  have q : c.slots[j.toNatClampNeg]? = some v := by rw [← Array.getElem?_toList, e]; exact hv
  exact ⟨c, A, fun r => r.elim hj fun y => absurd (Array.getElem?_eq_some_iff.mp q).1 (Nat.not_lt.mpr y), q⟩
theorem Ary.st (A : Ary Z h a ty vs) (hj : ¬ j < 0) (hl : j.toNatClampNeg < vs.length) : ∃ c : Cell, Arr Z h a c ty ∧ ¬ (j < 0 ∨ c.slots.size ≤ j.toNatClampNeg) := by
  obtain ⟨c, A, e, l, f⟩ := A
  refine ⟨c, A, fun r => r.elim hj fun y => ?_⟩
  rw [← e, Array.length_toList] at hl
  omega
theorem Ary.len (A : Ary Z h a ty vs) : ∃ c : Cell, Arr Z h a c ty ∧ c.slots.size.toInt32 = vs.length.toInt32 := by
  obtain ⟨c, A, e, l, f⟩ := A
  exact ⟨c, A, by rw [← e, Array.length_toList]⟩
theorem Ary.new (A : Arr Z h a (newA k ty z) ty) : Ary Z h a ty (List.replicate z.toNatClampNeg (defaultValue ty)) := by
  refine ⟨_, A, by simp [newA], ?_, fun v hv => ?_⟩
  · rw [List.length_replicate]
    have := Int32.toInt_lt z
    simp only [Int32.toNatClampNeg]
    omega
  · rw [List.eq_of_mem_replicate hv]
    cases ty <;> rfl
theorem Ary.fit (A : Ary Z h a ty vs) : ∃ c : Cell, Arr Z h a c ty ∧ FitC Z c ∧ c.slots.toList = vs ∧ c.slots.size = vs.length ∧ ∀ (h' : Heap) (b : Addr), Arr Z h' b (cloneOf c) ty → Ary Z h' b ty vs := by
  obtain ⟨c, A, e, l, f⟩ := A
  refine ⟨c, A, fitC_of A fun i hi v hv => ?_, e, by rw [← e, Array.length_toList], fun _ _ B => ⟨_, B, e, l, f⟩⟩
  refine f v ?_
  rw [← e]
  exact List.mem_of_getElem? (by rw [Array.getElem?_toList]; exact hv)
theorem ldI {p : Program} {l : Launch} {e : Env} {R : Room} {s : State} {m : MethodId} {args : Array Value} {below : List Frame} {meth : Method} {c : Code} {T : State} {locs : List Loc} {cells slots : Nat} (X : Stand p l e R s m args below meth c T locs cells slots) (hx : p.tables.exec = Jvm.exec) (hZ : Z.Warmed39 s.vm) (eT : T.heap = h) (A : Ary Z h a .int vs) (hj : ¬ j < 0) (hv : vs[j.toNatClampNeg]? = some v) {g : JFrame} (hg : g.method = m) {rest : List Value} (hs : g.stack = .int j :: .ref a :: rest) (hd : decode c.code g.pc = .ok (.iaload, 1)) (target : State)
    (hr : Steps p.tables e below (T.setTop { g with pc := g.pc + 1, stack := v :: rest }) target) : Steps p.tables e below (T.setTop g) target := by
  obtain ⟨cl, Ar, hin, hat⟩ := A.ld hj hv
  exact X.iaload hx (by rw [eT]; exact Ar.1) (State.isArrayOf_alike hZ.alike Ar.2.1) Ar.2.2 hin hat hg hs hd target hr
theorem ldJ {p : Program} {l : Launch} {e : Env} {R : Room} {s : State} {m : MethodId} {args : Array Value} {below : List Frame} {meth : Method} {c : Code} {T : State} {locs : List Loc} {cells slots : Nat} (X : Stand p l e R s m args below meth c T locs cells slots) (hx : p.tables.exec = Jvm.exec) (hZ : Z.Warmed39 s.vm) (eT : T.heap = h) (A : Ary Z h a .long vs) (hj : ¬ j < 0) (hv : vs[j.toNatClampNeg]? = some v) {g : JFrame} (hg : g.method = m) {rest : List Value} (hs : g.stack = .int j :: .ref a :: rest) (hd : decode c.code g.pc = .ok (.laload, 1)) (target : State)
    (hr : Steps p.tables e below (T.setTop { g with pc := g.pc + 1, stack := v :: rest }) target) : Steps p.tables e below (T.setTop g) target := by
  obtain ⟨cl, Ar, hin, hat⟩ := A.ld hj hv
  exact X.laload hx (by rw [eT]; exact Ar.1) (State.isArrayOf_alike hZ.alike Ar.2.1) Ar.2.2 hin hat hg hs hd target hr
theorem ldC {p : Program} {l : Launch} {e : Env} {R : Room} {s : State} {m : MethodId} {args : Array Value} {below : List Frame} {meth : Method} {c : Code} {T : State} {locs : List Loc} {cells slots : Nat} (X : Stand p l e R s m args below meth c T locs cells slots) (hx : p.tables.exec = Jvm.exec) (hZ : Z.Warmed39 s.vm) (eT : T.heap = h) (A : Ary Z h a .char vs) (hj : ¬ j < 0) (hv : vs[j.toNatClampNeg]? = some v) {g : JFrame} (hg : g.method = m) {rest : List Value} (hs : g.stack = .int j :: .ref a :: rest) (hd : decode c.code g.pc = .ok (.caload, 1)) (target : State)
    (hr : Steps p.tables e below (T.setTop { g with pc := g.pc + 1, stack := v :: rest }) target) : Steps p.tables e below (T.setTop g) target := by
  obtain ⟨cl, Ar, hin, hat⟩ := A.ld hj hv
  exact X.caload hx (by rw [eT]; exact Ar.1) (State.isArrayOf_alike hZ.alike Ar.2.1) Ar.2.2 hin hat hg hs hd target hr
theorem ldB {p : Program} {l : Launch} {e : Env} {R : Room} {s : State} {m : MethodId} {args : Array Value} {below : List Frame} {meth : Method} {c : Code} {T : State} {locs : List Loc} {cells slots : Nat} (X : Stand p l e R s m args below meth c T locs cells slots) (hx : p.tables.exec = Jvm.exec) (hZ : Z.Warmed39 s.vm) (eT : T.heap = h) (A : Ary Z h a .byte vs) (hj : ¬ j < 0) (hv : vs[j.toNatClampNeg]? = some v) {g : JFrame} (hg : g.method = m) {rest : List Value} (hs : g.stack = .int j :: .ref a :: rest) (hd : decode c.code g.pc = .ok (.baload, 1)) (target : State)
    (hr : Steps p.tables e below (T.setTop { g with pc := g.pc + 1, stack := v :: rest }) target) : Steps p.tables e below (T.setTop g) target := by
  obtain ⟨cl, Ar, hin, hat⟩ := A.ld hj hv
  exact X.baloadBytes hx (by rw [eT]; exact Ar.1) (State.isArrayOf_alike hZ.alike Ar.2.1) Ar.2.2 hin hat hg hs hd target hr
theorem ldZ {p : Program} {l : Launch} {e : Env} {R : Room} {s : State} {m : MethodId} {args : Array Value} {below : List Frame} {meth : Method} {c : Code} {T : State} {locs : List Loc} {cells slots : Nat} (X : Stand p l e R s m args below meth c T locs cells slots) (hx : p.tables.exec = Jvm.exec) (hZ : Z.Warmed39 s.vm) (eT : T.heap = h) (A : Ary Z h a .boolean vs) (hj : ¬ j < 0) (hv : vs[j.toNatClampNeg]? = some v) {g : JFrame} (hg : g.method = m) {rest : List Value} (hs : g.stack = .int j :: .ref a :: rest) (hd : decode c.code g.pc = .ok (.baload, 1)) (target : State)
    (hr : Steps p.tables e below (T.setTop { g with pc := g.pc + 1, stack := v :: rest }) target) : Steps p.tables e below (T.setTop g) target := by
  obtain ⟨cl, Ar, hin, hat⟩ := A.ld hj hv
  exact X.baloadBooleans hx (by rw [eT]; exact Ar.1) (State.isArrayOf_alike hZ.alike Ar.2.1) Ar.2.2 hin hat hg hs hd target hr
theorem ldR {p : Program} {l : Launch} {e : Env} {R : Room} {s : State} {m : MethodId} {args : Array Value} {below : List Frame} {meth : Method} {c : Code} {T : State} {locs : List Loc} {cells slots : Nat} (X : Stand p l e R s m args below meth c T locs cells slots) (hx : p.tables.exec = Jvm.exec) (hZ : Z.Warmed39 s.vm) (eT : T.heap = h) (A : Ary Z h a ty vs) (ht : ty.isReference = true) (hj : ¬ j < 0) (hv : vs[j.toNatClampNeg]? = some v) {g : JFrame} (hg : g.method = m) {rest : List Value} (hs : g.stack = .int j :: .ref a :: rest) (hd : decode c.code g.pc = .ok (.aaload, 1)) (target : State)
    (hr : Steps p.tables e below (T.setTop { g with pc := g.pc + 1, stack := v :: rest }) target) : Steps p.tables e below (T.setTop g) target := by
  obtain ⟨cl, Ar, hin, hat⟩ := A.ld hj hv
  exact X.aaload hx (by rw [eT]; exact Ar.1) (State.isArrayOf_alike hZ.alike Ar.2.1) ht Ar.2.2 hin hat hg hs hd target hr
theorem alen {p : Program} {l : Launch} {e : Env} {R : Room} {s : State} {m : MethodId} {args : Array Value} {below : List Frame} {meth : Method} {c : Code} {T : State} {locs : List Loc} {cells slots : Nat} (X : Stand p l e R s m args below meth c T locs cells slots) (hx : p.tables.exec = Jvm.exec) (hZ : Z.Warmed39 s.vm) (eT : T.heap = h) (A : Ary Z h a ty vs) (hn : vs.length.toInt32 = z) {g : JFrame} (hg : g.method = m) {rest : List Value} (hs : g.stack = .ref a :: rest) (hd : decode c.code g.pc = .ok (.arraylength, 1)) (target : State)
    (hr : Steps p.tables e below (T.setTop { g with pc := g.pc + 1, stack := .int z :: rest }) target) : Steps p.tables e below (T.setTop g) target := by
  obtain ⟨cl, Ar, ln⟩ := A.len
  exact X.arraylength hx (by rw [eT]; exact Ar.1) (State.isArrayOf_alike hZ.alike Ar.2.1) hg hs hd target (by rw [ln.trans hn]; exact hr)
theorem getI {xs : List Int32} {i : Nat} (q : i < xs.length) : (xs.map Value.int)[i]? = some (.int (xs.getD i 0)) := by
  simp [List.getElem?_map, List.getD_eq_getElem?_getD, List.getElem?_eq_getElem q]
theorem setI {xs : List Int32} {i : Nat} {x : Int32} : (xs.map Value.int).set i (.int x) = (xs.set i x).map Value.int := List.map_set.symm
/-- an array made over the class C -/
def OvA (Z : State) (h : Heap) (a : Addr) (C : String) : Prop := ∃ c : Cell, h[a]? = some c ∧ Ovr Z c.cls C
theorem OvA.keep {C : String} (O : OvA Z h a C) (K : Keep h h' ws) : OvA Z h' a C := by
  obtain ⟨c, e, o⟩ := O
  obtain ⟨c', q, r1, -, -⟩ := K.2.2 a c e
  exact ⟨c', q, r1 ▸ o⟩
theorem stA {C : String} {y : Addr} (O : OvA Z h a C) (A : Ary Z h a ty vs) (I : Ins Z h y C true) : Sto Z h a (.ref y) := by
  obtain ⟨c, A, -⟩ := A
  obtain ⟨c', e, o⟩ := O
  cases A.1.symm.trans e
  exact Sto.of A o I
theorem eqi_v {args : Array Value} {first s : State} {o : Option Outcome} {idx : List Nat} {t : Term} {k : Int32} (q : (Cond.eq t (.int k)).value args first o s idx = some true) : t.eval args first o idx s = some (.int k) := by
  simp only [Cond.value, Term.eval] at q
  cases ht : t.eval args first o idx s with
  | none => simp [ht] at q
  | some x => cases x <;> simp [ht] at q ⊢; exact q
theorem ary_start {args : Array Value} {s : State} {t : Term} {ty : FieldType} {a : Addr} {n : Int32} {vs : List Value} (hf : Fit s) (ev : t.eval args s none [] s = some (.ref a)) (ha : (Cond.arrayOf t ty).value args s none s [] = some true) (hl : (Cond.eq (.length t) (.int n)).value args s none s [] = some true) (hn : n = vs.length.toInt32) (hs : vs.length < 2147483648)
    (he : ∀ i, i < vs.length → (Term.elem t (.int i.toInt32)).eval args s none [] s = vs[i]?) : Ary s s.heap a ty vs := by
  obtain ⟨cl, A⟩ := Arr.start ev ha
  have hA := A.fin (Vm.Alike.refl _)
  have e1 := eqi_v hl
  have hsz : cl.slots.size < 2147483648 := by
    refine Nat.lt_of_not_le fun q => ?_
    have : ¬ cl.slots.size < 2 ^ 31 := by omega
    simp [Term.eval, ev, hA, this] at e1
  have e2 := len_f (idx := []) ev hA (by omega)
  rw [e1] at e2
  have e3 : n = cl.slots.size.toInt32 := by simpa using e2
  have e4 : cl.slots.size = vs.length := by
    have q := hn.symm.trans e3
    have q1 : vs.length.toInt32.toInt = vs.length := len_toInt (by omega)
    have q2 : cl.slots.size.toInt32.toInt = cl.slots.size := len_toInt (by omega)
    rw [q, q2] at q1
    omega
  have e5 : ∀ i, i < vs.length → cl.slots[i]? = vs[i]? := fun i hi => by
    have q := he i hi
    rw [List.getElem?_eq_getElem hi] at q
    have r := (elem_in q ev (Term.int_eval _) A.1).2
    have e : i.toInt32.toNatClampNeg = i := by simp only [Int32.toNatClampNeg, len_toInt (show i < 2 ^ 31 by omega)]; rfl
    rw [e] at r
    rw [r, List.getElem?_eq_getElem hi]
  refine ⟨cl, A, ?_, hs, fun v hv => ?_⟩
  · refine List.ext_getElem? fun i => ?_
    rw [Array.getElem?_toList]
    by_cases hi : i < vs.length
    · exact e5 i hi
    · rw [Array.getElem?_eq_none (by omega), List.getElem?_eq_none (by omega)]
  · obtain ⟨i, hi, rfl⟩ := List.getElem_of_mem hv
    have r := e5 i hi
    rw [List.getElem?_eq_getElem hi] at r
    have e : i.toInt32.toNatClampNeg = i := by simp only [Int32.toNatClampNeg, len_toInt (show i < 2 ^ 31 by omega)]; rfl
    exact elem_fits (j := i.toInt32) hf A (idx_in (by omega) (by omega)) (by rw [e]; exact r)
theorem nin1 {x y : Addr} (q : x ≠ y) : x ∉ [y] := ninS q nin0
end Heap
end Jvm.Own
namespace Jvm.Pilot.@@N@@
open Jvm Jvm.ClassFile Sem Op Lib Jvm.Free Jvm.Stand Jvm.LawKit Jvm.RoadKit Jvm.Own Bundle Jvm.Pilot.@@N@@.Jvm.D
/-- after n turns of the first loop -/
def own_l1 (ks : List Int32) (kc : Int32) : Nat → List Int32
  | 0 => List.replicate (kc + 1).toNatClampNeg 0
  | i + 1 => (own_l1 ks kc i).set (ks.getD i 0 + 1).toNatClampNeg ((own_l1 ks kc i).getD (ks.getD i 0 + 1).toNatClampNeg 0 + 1)
/-- after n turns of the second -/
def own_l2 (r : List Int32) : Nat → List Int32
  | 0 => r
  | i + 1 => (own_l2 r i).set (i + 1) ((own_l2 r i).getD (i + 1) 0 + (own_l2 r i).getD i 0)
def own_st (ks : List Int32) (cnt kc : Int32) : List Int32 := own_l2 (own_l1 ks kc cnt.toNatClampNeg) kc.toNatClampNeg
theorem own_len1 (ks : List Int32) (kc : Int32) : ∀ n, (own_l1 ks kc n).length = (kc + 1).toNatClampNeg
  | 0 => by simp [own_l1]
  | n + 1 => by rw [own_l1, List.length_set]; exact own_len1 ks kc n
theorem own_len2 (r : List Int32) : ∀ n, (own_l2 r n).length = r.length
  | 0 => rfl
  | n + 1 => by rw [own_l2, List.length_set]; exact own_len2 r n
theorem own_lenS (ks : List Int32) (cnt kc : Int32) : (own_st ks cnt kc).length = (kc + 1).toNatClampNeg := by rw [own_st, own_len2, own_len1]
def own_below (ks : List Int32) (cnt k : Int32) : Int32 :=
  let n0 : Int32 := if 0 < cnt then if ks.getD 0 0 < k then 1 else 0 else 0
  let n1 : Int32 := if 1 < cnt then if ks.getD 1 0 < k then n0 + 1 else n0 else n0
  let n2 : Int32 := if 2 < cnt then if ks.getD 2 0 < k then n1 + 1 else n1 else n1
  if 3 < cnt then if ks.getD 3 0 < k then n2 + 1 else n2 else n2
/-- the finite heart: small counts, small keys -/
theorem own_fin : ∀ (kc : Fin 5) (cnt : Fin 5) (a b c d : Fin 4) (k : Fin 5), (cnt.1 = 0 ∨ 0 < kc.1) → k.1 ≤ kc.1 →
    (cnt.1 ≤ 0 ∨ a.1 < kc.1) → (cnt.1 ≤ 1 ∨ b.1 < kc.1) → (cnt.1 ≤ 2 ∨ c.1 < kc.1) → (cnt.1 ≤ 3 ∨ d.1 < kc.1) → (a.1 = 0 ∨ 0 < cnt.1) → (b.1 = 0 ∨ 1 < cnt.1) → (c.1 = 0 ∨ 2 < cnt.1) → (d.1 = 0 ∨ 3 < cnt.1) →
    (own_st [Int32.ofNat a.1, Int32.ofNat b.1, Int32.ofNat c.1, Int32.ofNat d.1] (Int32.ofNat cnt.1) (Int32.ofNat kc.1)).getD k.1 0 = own_below [Int32.ofNat a.1, Int32.ofNat b.1, Int32.ofNat c.1, Int32.ofNat d.1] (Int32.ofNat cnt.1) (Int32.ofNat k.1) := by decide +kernel

theorem own_i5 {x : Int32} {m : Nat} (h0 : 0 ≤ x.toInt) (h1 : x.toInt < m) : ∃ n : Fin m, x = Int32.ofNat n.1 := by
  have e : Int32.ofNat x.toInt.toNat = x := by rw [← Int32.ofInt_eq_ofNat, Int.toNat_of_nonneg h0, Int32.ofInt_toInt]
  exact ⟨⟨x.toInt.toNat, by omega⟩, e.symm⟩
theorem own_cl (x : Int32) : x.toNatClampNeg = x.toInt.toNat := rfl
theorem own_dep1 {ks ks' : List Int32} (kc : Int32) : ∀ n, (∀ i, i < n → ks.getD i 0 = ks'.getD i 0) → own_l1 ks kc n = own_l1 ks' kc n
  | 0, _ => rfl
  | n + 1, h => by rw [own_l1, own_l1, own_dep1 kc n (fun i hi => h i (by omega)), h n (by omega)]
theorem own_dep2 {ks ks' : List Int32} {cnt k : Int32} (h : ∀ i : Nat, (i : Int) < cnt.toInt → ks.getD i 0 = ks'.getD i 0) : own_below ks cnt k = own_below ks' cnt k := by
  have g : ∀ (i : Nat) (j x y : Int32), j.toInt = i → (if j < cnt then if ks.getD i 0 < k then x else y else y) = (if j < cnt then if ks'.getD i 0 < k then x else y else y) := by
    intro i j x y hj
    by_cases q : j < cnt
    · rw [if_pos q, if_pos q, h i (by rw [Int32.lt_iff_toInt_lt] at q; omega)]
    · rw [if_neg q, if_neg q]
  unfold own_below
  simp only [g 0 0 _ _ rfl, g 1 1 _ _ rfl, g 2 2 _ _ rfl, g 3 3 _ _ rfl]
theorem own_law {a b c d cnt kc k : Int32} (hkc : 0 ≤ kc.toInt ∧ kc.toInt ≤ 4) (hcnt : 0 ≤ cnt.toInt ∧ cnt.toInt ≤ 4) (hz : cnt.toInt = 0 ∨ 0 < kc.toInt)
    (hks : ∀ i, i < cnt.toNatClampNeg → 0 ≤ ([a, b, c, d].getD i 0).toInt ∧ ([a, b, c, d].getD i 0).toInt < kc.toInt) (hk : 0 ≤ k.toInt ∧ k.toInt ≤ kc.toInt) :
    (own_st [a, b, c, d] cnt kc).getD k.toNatClampNeg 0 = own_below [a, b, c, d] cnt k := by
  obtain ⟨kc, rfl⟩ := own_i5 (m := 5) hkc.1 (by omega)
  obtain ⟨cnt, rfl⟩ := own_i5 (m := 5) hcnt.1 (by omega)
  obtain ⟨k, rfl⟩ := own_i5 (m := 5) hk.1 (by omega)
  have t : ∀ n : Fin 5, (Int32.ofNat n.1).toInt = n.1 ∧ (Int32.ofNat n.1).toNatClampNeg = n.1 := by decide
  rw [(t k).2]
  rw [(t kc).1] at *
  rw [(t cnt).2] at hks
  rw [(t cnt).1] at *
  rw [(t k).1] at hk
  have t4 : ∀ n : Fin 4, (Int32.ofNat n.1).toInt = n.1 := by decide
  have key : ∀ a' b' c' d' : Int32, (0 < cnt.1 → a' = a) → (1 < cnt.1 → b' = b) → (2 < cnt.1 → c' = c) → (3 < cnt.1 → d' = d) →
      own_st [a, b, c, d] (Int32.ofNat cnt.1) (Int32.ofNat kc.1) = own_st [a', b', c', d'] (Int32.ofNat cnt.1) (Int32.ofNat kc.1) ∧ own_below [a, b, c, d] (Int32.ofNat cnt.1) (Int32.ofNat k.1) = own_below [a', b', c', d'] (Int32.ofNat cnt.1) (Int32.ofNat k.1) := by
    intro a' b' c' d' h0 h1 h2 h3
    have g : ∀ i, i < cnt.1 → [a, b, c, d].getD i 0 = [a', b', c', d'].getD i 0 := by
      intro i hi
      have := cnt.2
      match i, hi with
      | 0, hi => exact (h0 hi).symm
      | 1, hi => exact (h1 hi).symm
      | 2, hi => exact (h2 hi).symm
      | 3, hi => exact (h3 hi).symm
      | i + 4, hi => omega
    refine ⟨?_, own_dep2 (fun i hi => g i (by rw [(t cnt).1] at hi; omega))⟩
    unfold own_st
    rw [(t cnt).2, own_dep1 _ _ g]
  have pick : ∀ (i : Nat) (x : Int32), [a, b, c, d].getD i 0 = x → ∃ y : Fin 4, (i < cnt.1 → Int32.ofNat y.1 = x) ∧ (cnt.1 ≤ i ∨ y.1 < kc.1) ∧ (y.1 = 0 ∨ i < cnt.1) := by
    intro i x hx
    by_cases q : i < cnt.1
    · have := hks i q
      rw [hx] at this
      obtain ⟨y, rfl⟩ := own_i5 (m := 4) this.1 (by omega)
      rw [t4] at this
      exact ⟨y, fun _ => rfl, Or.inr (by omega), Or.inr q⟩
    · exact ⟨⟨0, by decide⟩, fun z => absurd z q, Or.inl (by omega), Or.inl rfl⟩
  obtain ⟨a', a1, a2, a3⟩ := pick 0 a rfl
  obtain ⟨b', b1, b2, b3⟩ := pick 1 b rfl
  obtain ⟨c', c1, c2, c3⟩ := pick 2 c rfl
  obtain ⟨d', d1, d2, d3⟩ := pick 3 d rfl
  obtain ⟨e1, e2⟩ := key _ _ _ _ a1 b1 c1 d1
  rw [e1, e2]
  exact own_fin kc cnt a' b' c' d' k (by omega) (by omega) a2 b2 c2 d2 a3 b3 c3 d3

theorem own_ix {i : Int32} {n : Nat} (h : i.toInt = n) : ¬ i < 0 ∧ i.toNatClampNeg = n := by
  rw [Int32.lt_iff_toInt_lt, own_cl]
  have : (0 : Int32).toInt = 0 := rfl
  omega
theorem own_inc {i q : Int32} {n : Nat} (h : i.toInt = n) (hc : i < q) : (i + 1).toInt = ((n + 1 : Nat) : Int) := by
  rw [Int32.lt_iff_toInt_lt] at hc
  have := q.toInt_lt
  have e1 : (1 : Int32).toInt = 1 := rfl
  rw [Int32.toInt_add, e1, Int.bmod_eq_of_le (by omega) (by omega)]
  omega
theorem own_lt {i q : Int32} {n : Nat} (h : i.toInt = n) (hc : i < q) : n < q.toNatClampNeg := by
  rw [Int32.lt_iff_toInt_lt] at hc
  rw [own_cl]
  omega
theorem own_fall {i q : Int32} {n k : Nat} (h : i.toInt = n) (hc : i < q) (hk : (q.toInt - i.toInt).toNat < k + 1) : (q.toInt - (i + 1).toInt).toNat < k := by
  rw [own_inc h hc]
  rw [Int32.lt_iff_toInt_lt] at hc
  omega
theorem own_at {i q : Int32} {n : Nat} (h : i.toInt = n) (hn : n ≤ q.toNatClampNeg) (hc : ¬ i < q) : n = q.toNatClampNeg := by
  rw [Int32.lt_iff_toInt_lt] at hc
  rw [own_cl] at *
  omega
theorem own_j {x kc : Int32} (h0 : 0 ≤ x.toInt) (h1 : x.toInt < kc.toInt) (h4 : kc.toInt ≤ 4) : ¬ x + 1 < 0 ∧ (x + 1).toNatClampNeg < (kc + 1).toNatClampNeg ∧ (x + 1).toNatClampNeg = x.toNatClampNeg + 1 := by
  have e1 : (1 : Int32).toInt = 1 := rfl
  have a : (x + 1).toInt = x.toInt + 1 := by rw [Int32.toInt_add, e1]; exact Int.bmod_eq_of_le (by omega) (by omega)
  have b : (kc + 1).toInt = kc.toInt + 1 := by rw [Int32.toInt_add, e1]; exact Int.bmod_eq_of_le (by omega) (by omega)
  rw [Int32.lt_iff_toInt_lt, own_cl, own_cl, own_cl, a, b]
  have : (0 : Int32).toInt = 0 := rfl
  omega
theorem own_kc {kc : Int32} (h0 : 0 ≤ kc.toInt) (h4 : kc.toInt ≤ 4) : ¬ kc + 1 < 0 ∧ (kc + 1).toNatClampNeg ≤ 5 ∧ (kc + 1).toNatClampNeg = kc.toNatClampNeg + 1 := by
  have e1 : (1 : Int32).toInt = 1 := rfl
  have b : (kc + 1).toInt = kc.toInt + 1 := by rw [Int32.toInt_add, e1]; exact Int.bmod_eq_of_le (by omega) (by omega)
  rw [Int32.lt_iff_toInt_lt, own_cl, own_cl, b]
  have : (0 : Int32).toInt = 0 := rfl
  omega
theorem own_mod5 (x : Int32) : 0 ≤ ((x &&& (2147483647 : Int32)) % (5 : Int32)).toInt ∧ ((x &&& (2147483647 : Int32)) % (5 : Int32)).toInt ≤ 4 := by
  have hx : 0 ≤ (x &&& (2147483647 : Int32)).toInt := (c_and x 2147483647 (by decide)).1
  have e : (5 : Int32).toInt = 5 := rfl
  rw [Int32.toInt_mod, e, Int.tmod_eq_emod_of_nonneg hx]
  omega
theorem own_nz {z kc y k : Int32} (h : z = if kc = 0 then 0 else y) (h0 : 0 ≤ k.toInt) (hc : k < z) : kc ≠ 0 := fun e => by
  rw [if_pos e] at h
  rw [h, Int32.lt_iff_toInt_lt] at hc
  have : (0 : Int32).toInt = 0 := rfl
  omega
theorem own_zz {z kc x : Int32} (h : z = if kc = 0 then 0 else (x &&& (2147483647 : Int32)) % (5 : Int32)) (hk : 0 ≤ kc.toInt) : (0 ≤ z.toInt ∧ z.toInt ≤ 4) ∧ (z.toInt = 0 ∨ 0 < kc.toInt) := by
  by_cases q : kc = 0
  · rw [if_pos q] at h
    rw [h]
    exact ⟨⟨by decide, by decide⟩, Or.inl rfl⟩
  · rw [if_neg q] at h
    rw [h]
    refine ⟨own_mod5 x, Or.inr ?_⟩
    have : kc.toInt ≠ 0 := fun e => q (by rw [← Int32.ofInt_toInt kc, e]; rfl)
    omega
theorem own_one {y z kc x k : Int32} (hy : y = if k < z then (x &&& (2147483647 : Int32)) % kc else x) (hz : z.toInt = 0 ∨ 0 < kc.toInt) (hk0 : 0 ≤ k.toInt) (hk : k.toInt < z.toInt) : 0 ≤ y.toInt ∧ y.toInt < kc.toInt := by
  have q : k < z := by rw [Int32.lt_iff_toInt_lt]; exact hk
  rw [if_pos q] at hy
  have hx : 0 ≤ (x &&& (2147483647 : Int32)).toInt := (c_and x 2147483647 (by decide)).1
  have hp : 0 < kc.toInt := by omega
  rw [hy, Int32.toInt_mod, Int.tmod_eq_emod_of_nonneg hx]
  exact ⟨Int.emod_nonneg _ (by omega), Int.emod_lt_of_pos _ hp⟩
theorem own_ks {kc z p1 p2 p3 p4 p5 a b c d : Int32} (hz : z = if kc = 0 then 0 else (p1 &&& (2147483647 : Int32)) % (5 : Int32)) (hkc : 0 ≤ kc.toInt) (ha : a = if 0 < z then (p2 &&& (2147483647 : Int32)) % kc else p2) (hb : b = if 1 < z then (p3 &&& (2147483647 : Int32)) % kc else p3) (hc : c = if 2 < z then (p4 &&& (2147483647 : Int32)) % kc else p4) (hd : d = if 3 < z then (p5 &&& (2147483647 : Int32)) % kc else p5) :
    ∀ i, i < z.toNatClampNeg → 0 ≤ ([a, b, c, d].getD i 0).toInt ∧ ([a, b, c, d].getD i 0).toInt < kc.toInt := by
  obtain ⟨⟨z0, z1⟩, z2⟩ := own_zz hz hkc
  intro i hi
  rw [own_cl] at hi
  match i, hi with
  | 0, hi => exact own_one ha z2 (by decide) (by show (0 : Int) < _; omega)
  | 1, hi => exact own_one hb z2 (by decide) (by show (1 : Int) < _; omega)
  | 2, hi => exact own_one hc z2 (by decide) (by show (2 : Int) < _; omega)
  | 3, hi => exact own_one hd z2 (by decide) (by show (3 : Int) < _; omega)
  | i + 4, hi => omega
def own_check (rs ks : List Int32) (cnt kc k : Int32) : Int32 := if kc < k then 1 else if rs.getD k.toNatClampNeg 0 = own_below ks cnt k then 1 else 0
theorem own_ok {a b c d cnt kc k : Int32} (hkc : 0 ≤ kc.toInt ∧ kc.toInt ≤ 4) (hcnt : (0 ≤ cnt.toInt ∧ cnt.toInt ≤ 4) ∧ (cnt.toInt = 0 ∨ 0 < kc.toInt))
    (hks : ∀ i, i < cnt.toNatClampNeg → 0 ≤ ([a, b, c, d].getD i 0).toInt ∧ ([a, b, c, d].getD i 0).toInt < kc.toInt) (hk : 0 ≤ k.toInt) : ¬ (own_check (own_st [a, b, c, d] cnt kc) [a, b, c, d] cnt kc k = 0) := by
  unfold own_check
  by_cases q : kc < k
  · rw [if_pos q]
    decide
  · rw [if_neg q]
    rw [Int32.lt_iff_toInt_lt] at q
    rw [if_pos (own_law hkc hcnt.1 hcnt.2 hks ⟨hk, by omega⟩)]
    decide
theorem own_klen {ks : List Int32} {cnt kc k : Int32} (h0 : 0 ≤ kc.toInt) (h4 : kc.toInt ≤ 4) (hk : 0 ≤ k.toInt) (q : ¬ kc < k) : k.toNatClampNeg < (own_st ks cnt kc).length := by
  rw [own_lenS, (own_kc h0 h4).2.2]
  rw [Int32.lt_iff_toInt_lt] at q
  rw [own_cl, own_cl]
  omega
theorem own_len {ks : List Int32} {cnt kc : Int32} (h0 : 0 ≤ kc.toInt) (h4 : kc.toInt ≤ 4) : (List.map Value.int (own_st ks cnt kc)).length.toInt32 = kc + 1 := by
  rw [List.length_map, own_lenS]
  exact (back32 (own_kc h0 h4).1).1
theorem d3_0 : decode method_4_code 0 = .ok (.iconst 0, 1) := by decide +kernel
theorem d3_1 : decode method_4_code 1 = .ok (.istore_n 3, 1) := by decide +kernel
theorem d3_2 : decode method_4_code 2 = .ok (.iload_n 1, 1) := by decide +kernel
theorem d3_3 : decode method_4_code 3 = .ok (.ifCond .le 13, 3) := by decide +kernel
theorem d3_6 : decode method_4_code 6 = .ok (.aload_n 0, 1) := by decide +kernel
theorem d3_7 : decode method_4_code 7 = .ok (.iconst 0, 1) := by decide +kernel
theorem d3_8 : decode method_4_code 8 = .ok (.iaload, 1) := by decide +kernel
theorem d3_9 : decode method_4_code 9 = .ok (.iload_n 2, 1) := by decide +kernel
theorem d3_10 : decode method_4_code 10 = .ok (.if_icmp .ge 6, 3) := by decide +kernel
theorem d3_13 : decode method_4_code 13 = .ok (.iinc 3 1, 3) := by decide +kernel
theorem d3_16 : decode method_4_code 16 = .ok (.iload_n 1, 1) := by decide +kernel
theorem d3_17 : decode method_4_code 17 = .ok (.iconst 1, 1) := by decide +kernel
theorem d3_18 : decode method_4_code 18 = .ok (.if_icmp .le 13, 3) := by decide +kernel
theorem d3_21 : decode method_4_code 21 = .ok (.aload_n 0, 1) := by decide +kernel
theorem d3_22 : decode method_4_code 22 = .ok (.iconst 1, 1) := by decide +kernel
theorem d3_23 : decode method_4_code 23 = .ok (.iaload, 1) := by decide +kernel
theorem d3_24 : decode method_4_code 24 = .ok (.iload_n 2, 1) := by decide +kernel
theorem d3_25 : decode method_4_code 25 = .ok (.if_icmp .ge 6, 3) := by decide +kernel
theorem d3_28 : decode method_4_code 28 = .ok (.iinc 3 1, 3) := by decide +kernel
theorem d3_31 : decode method_4_code 31 = .ok (.iload_n 1, 1) := by decide +kernel
theorem d3_32 : decode method_4_code 32 = .ok (.iconst 2, 1) := by decide +kernel
theorem d3_33 : decode method_4_code 33 = .ok (.if_icmp .le 13, 3) := by decide +kernel
theorem d3_36 : decode method_4_code 36 = .ok (.aload_n 0, 1) := by decide +kernel
theorem d3_37 : decode method_4_code 37 = .ok (.iconst 2, 1) := by decide +kernel
theorem d3_38 : decode method_4_code 38 = .ok (.iaload, 1) := by decide +kernel
theorem d3_39 : decode method_4_code 39 = .ok (.iload_n 2, 1) := by decide +kernel
theorem d3_40 : decode method_4_code 40 = .ok (.if_icmp .ge 6, 3) := by decide +kernel
theorem d3_43 : decode method_4_code 43 = .ok (.iinc 3 1, 3) := by decide +kernel
theorem d3_46 : decode method_4_code 46 = .ok (.iload_n 1, 1) := by decide +kernel
theorem d3_47 : decode method_4_code 47 = .ok (.iconst 3, 1) := by decide +kernel
theorem d3_48 : decode method_4_code 48 = .ok (.if_icmp .le 13, 3) := by decide +kernel
theorem d3_51 : decode method_4_code 51 = .ok (.aload_n 0, 1) := by decide +kernel
theorem d3_52 : decode method_4_code 52 = .ok (.iconst 3, 1) := by decide +kernel
theorem d3_53 : decode method_4_code 53 = .ok (.iaload, 1) := by decide +kernel
theorem d3_54 : decode method_4_code 54 = .ok (.iload_n 2, 1) := by decide +kernel
theorem d3_55 : decode method_4_code 55 = .ok (.if_icmp .ge 6, 3) := by decide +kernel
theorem d3_58 : decode method_4_code 58 = .ok (.iinc 3 1, 3) := by decide +kernel
theorem d3_61 : decode method_4_code 61 = .ok (.iload_n 3, 1) := by decide +kernel
theorem d3_62 : decode method_4_code 62 = .ok (.ireturn, 1) := by decide +kernel
theorem pn_3 : plainName "com/example/settle/settle/model/IntArraysStartsPinLaw" = true := by first | (simp [plainName, overriddenIn]; done) | decide +kernel
theorem ef_3 (m : MethodId) (x0 : Addr) (x1 : Int32) (x2 : Int32) : entryFrame m #[(.ref x0), (.int x1), (.int x2)] 4 = mkF m 0 #[.val (.ref x0), .val (.int x1), .val (.int x2), .unset] [] := by first | (simp [entryFrame, mkF, argsToLocals, Value.category]; done) | rfl
def Q3 (Z : State) (a0 : Addr) (p1 : Int32) (p2 : Int32) (k0 k1 k2 k3 : Int32) (h0 : Heap) (n0 : Nat) (v : Option Value) (h : Heap) (L : List Loc) : Prop := v = some (.int (own_below [k0, k1, k2, k3] p1 p2)) ∧ Fr n0 L ∧ h = h0
set_option maxRecDepth 65536 in
set_option maxHeartbeats 40000000 in
theorem rm3 (l : Launch) (Z : State) (aw : Array Value) (hw : ∀ d ∈ tables_1, d.before aw Z = true) (ws : List Jvm.Cond) (a0 : Addr) (p1 : Int32) (p2 : Int32) (k0 k1 k2 k3 : Int32) (h0 : Heap) (n0 : Nat) (Z0 : n0 ≤ h0.size) (A_a0 : Ary Z h0 a0 .int [(.int k0), (.int k1), (.int k2), (.int k3)]) :
    MetFree l (⟨"com/example/settle/settle/model/IntArraysStartsPinLaw", "below", "([III)I"⟩ : MethodName) (head1 (Jvm.Cond.code (⟨"com/example/settle/settle/model/IntArraysStartsPinLaw", "below", "([III)I"⟩ : MethodName) method_4_code 4 (some .int) :: ws) ({ frames := 0, cells := 0, slots := 0, locals := 0 } : Room)) (fun a U => a = #[(.ref a0), (.int p1), (.int p2)] ∧ Z.Warmed39 U.vm ∧ U.heap = h0) (fun _ _ _ _ _ => True) (fun _ U o U' => ∃ v L, o = .returned v ∧ Q3 Z a0 p1 p2 k0 k1 k2 k3 h0 n0 v U'.heap L ∧ FrameEnd U o U' L ({ frames := 0, cells := 0, slots := 0, locals := 0 } : Room).cells ({ frames := 0, cells := 0, slots := 0, locals := 0 } : Room).slots) := by
  refine MetFree.of_bodySF (plainFor_of_name pn_3) hisR ?_
  intro p e s m args below meth c s₁ Bd hml0 hP hK
  obtain ⟨rfl, hZ, hh⟩ := hP
  have hx := Bd.exec
  have hby := Bd.bytes
  have hml : c.maxLocals = 4 := hml0
  have hown : s.vm.findClass "com/example/settle/settle/model/IntArraysStartsPinLaw" = some m.cls := findClass_of_methodNamed Bd.named
  have hnm := (name_of_methodNamed Bd.named Bd.method).1
  have hlk : meth.locks = false := BodyLoose.notSynchronized Bd
  have X0 : Stand p l e ({ frames := 0, cells := 0, slots := 0, locals := 0 } : Room) s m #[(.ref a0), (.int p1), (.int p2)] below meth c s₁ [] 0 0 := Stand.of_body Bd
  have e0 : s₁.heap = h0 := by rw [← hh, Bd.state]; rfl
  have N0 := Fr.nil n0
  show Run p e s below (Q3 Z a0 p1 p2 k0 k1 k2 k3 h0 n0) ({ frames := 0, cells := 0, slots := 0, locals := 0 } : Room).cells ({ frames := 0, cells := 0, slots := 0, locals := 0 } : Room).slots s₁ (entryFrame m #[(.ref a0), (.int p1), (.int p2)] 4)
  rw [ef_3]
  show Run _ _ _ _ _ _ _ s₁ (mkF m 0 #[.val (.ref a0), .val (.int p1), .val (.int p2), .unset] [])
  refine go (T' := s₁) (f' := (mkF m 1 #[.val (.ref a0), .val (.int p1), .val (.int p2), .unset] [(.int (0 : Int32))])) (by intro t k; exact XS.iconst X0.here hx rfl (hb hby d3_0) k) ?_
  show Run _ _ _ _ _ _ _ s₁ (mkF m 1 #[.val (.ref a0), .val (.int p1), .val (.int p2), .unset] [(.int (0 : Int32))])
  refine go (T' := s₁) (f' := (mkF m 2 #[.val (.ref a0), .val (.int p1), .val (.int p2), .val (.int (0 : Int32))] [])) (by intro t k; exact XS.istoreN X0.here hx rfl (hb hby d3_1) rfl (l' := #[.val (.ref a0), .val (.int p1), .val (.int p2), .val (.int (0 : Int32))]) rfl k) ?_
  show Run _ _ _ _ _ _ _ s₁ (mkF m 2 #[.val (.ref a0), .val (.int p1), .val (.int p2), .val (.int (0 : Int32))] [])
  refine go (T' := s₁) (f' := (mkF m 3 #[.val (.ref a0), .val (.int p1), .val (.int p2), .val (.int (0 : Int32))] [(.int p1)])) (by intro t k; exact XS.iloadN X0.here hx rfl (hb hby d3_2) rfl k) ?_
  show Run _ _ _ _ _ _ _ s₁ (mkF m 3 #[.val (.ref a0), .val (.int p1), .val (.int p2), .val (.int (0 : Int32))] [(.int p1)])
  obtain ⟨z1, hz1⟩ : ∃ z : Int32, z = (if (0 : Int32) < p1 then (if k0 < p2 then (1 : Int32) else (0 : Int32)) else (0 : Int32)) := ⟨_, rfl⟩
  have J3 : Run p e s below (Q3 Z a0 p1 p2 k0 k1 k2 k3 h0 n0) ({ frames := 0, cells := 0, slots := 0, locals := 0 } : Room).cells ({ frames := 0, cells := 0, slots := 0, locals := 0 } : Room).slots s₁ (mkF m 16 #[.val (.ref a0), .val (.int p1), .val (.int p2), .val (.int z1)] []) := by
    show Run _ _ _ _ _ _ _ s₁ (mkF m 16 #[.val (.ref a0), .val (.int p1), .val (.int p2), .val (.int z1)] [])
    refine go (T' := s₁) (f' := (mkF m 17 #[.val (.ref a0), .val (.int p1), .val (.int p2), .val (.int z1)] [(.int p1)])) (by intro t k; exact XS.iloadN X0.here hx rfl (hb hby d3_16) rfl k) ?_
    show Run _ _ _ _ _ _ _ s₁ (mkF m 17 #[.val (.ref a0), .val (.int p1), .val (.int p2), .val (.int z1)] [(.int p1)])
    refine go (T' := s₁) (f' := (mkF m 18 #[.val (.ref a0), .val (.int p1), .val (.int p2), .val (.int z1)] [(.int (1 : Int32)), (.int p1)])) (by intro t k; exact XS.iconst X0.here hx rfl (hb hby d3_17) k) ?_
    show Run _ _ _ _ _ _ _ s₁ (mkF m 18 #[.val (.ref a0), .val (.int p1), .val (.int p2), .val (.int z1)] [(.int (1 : Int32)), (.int p1)])
    obtain ⟨z2, hz2⟩ : ∃ z : Int32, z = (if (1 : Int32) < p1 then (if k1 < p2 then (z1 + (1 : Int32)) else z1) else z1) := ⟨_, rfl⟩
    have J18 : Run p e s below (Q3 Z a0 p1 p2 k0 k1 k2 k3 h0 n0) ({ frames := 0, cells := 0, slots := 0, locals := 0 } : Room).cells ({ frames := 0, cells := 0, slots := 0, locals := 0 } : Room).slots s₁ (mkF m 31 #[.val (.ref a0), .val (.int p1), .val (.int p2), .val (.int z2)] []) := by
      show Run _ _ _ _ _ _ _ s₁ (mkF m 31 #[.val (.ref a0), .val (.int p1), .val (.int p2), .val (.int z2)] [])
      refine go (T' := s₁) (f' := (mkF m 32 #[.val (.ref a0), .val (.int p1), .val (.int p2), .val (.int z2)] [(.int p1)])) (by intro t k; exact XS.iloadN X0.here hx rfl (hb hby d3_31) rfl k) ?_
      show Run _ _ _ _ _ _ _ s₁ (mkF m 32 #[.val (.ref a0), .val (.int p1), .val (.int p2), .val (.int z2)] [(.int p1)])
      refine go (T' := s₁) (f' := (mkF m 33 #[.val (.ref a0), .val (.int p1), .val (.int p2), .val (.int z2)] [(.int (2 : Int32)), (.int p1)])) (by intro t k; exact XS.iconst X0.here hx rfl (hb hby d3_32) k) ?_
      show Run _ _ _ _ _ _ _ s₁ (mkF m 33 #[.val (.ref a0), .val (.int p1), .val (.int p2), .val (.int z2)] [(.int (2 : Int32)), (.int p1)])
      obtain ⟨z3, hz3⟩ : ∃ z : Int32, z = (if (2 : Int32) < p1 then (if k2 < p2 then (z2 + (1 : Int32)) else z2) else z2) := ⟨_, rfl⟩
      have J33 : Run p e s below (Q3 Z a0 p1 p2 k0 k1 k2 k3 h0 n0) ({ frames := 0, cells := 0, slots := 0, locals := 0 } : Room).cells ({ frames := 0, cells := 0, slots := 0, locals := 0 } : Room).slots s₁ (mkF m 46 #[.val (.ref a0), .val (.int p1), .val (.int p2), .val (.int z3)] []) := by
        show Run _ _ _ _ _ _ _ s₁ (mkF m 46 #[.val (.ref a0), .val (.int p1), .val (.int p2), .val (.int z3)] [])
        refine go (T' := s₁) (f' := (mkF m 47 #[.val (.ref a0), .val (.int p1), .val (.int p2), .val (.int z3)] [(.int p1)])) (by intro t k; exact XS.iloadN X0.here hx rfl (hb hby d3_46) rfl k) ?_
        show Run _ _ _ _ _ _ _ s₁ (mkF m 47 #[.val (.ref a0), .val (.int p1), .val (.int p2), .val (.int z3)] [(.int p1)])
        refine go (T' := s₁) (f' := (mkF m 48 #[.val (.ref a0), .val (.int p1), .val (.int p2), .val (.int z3)] [(.int (3 : Int32)), (.int p1)])) (by intro t k; exact XS.iconst X0.here hx rfl (hb hby d3_47) k) ?_
        show Run _ _ _ _ _ _ _ s₁ (mkF m 48 #[.val (.ref a0), .val (.int p1), .val (.int p2), .val (.int z3)] [(.int (3 : Int32)), (.int p1)])
        obtain ⟨z4, hz4⟩ : ∃ z : Int32, z = (if (3 : Int32) < p1 then (if k3 < p2 then (z3 + (1 : Int32)) else z3) else z3) := ⟨_, rfl⟩
        have J48 : Run p e s below (Q3 Z a0 p1 p2 k0 k1 k2 k3 h0 n0) ({ frames := 0, cells := 0, slots := 0, locals := 0 } : Room).cells ({ frames := 0, cells := 0, slots := 0, locals := 0 } : Room).slots s₁ (mkF m 61 #[.val (.ref a0), .val (.int p1), .val (.int p2), .val (.int z4)] []) := by
          show Run _ _ _ _ _ _ _ s₁ (mkF m 61 #[.val (.ref a0), .val (.int p1), .val (.int p2), .val (.int z4)] [])
          refine go (T' := s₁) (f' := (mkF m 62 #[.val (.ref a0), .val (.int p1), .val (.int p2), .val (.int z4)] [(.int z4)])) (by intro t k; exact XS.iloadN X0.here hx rfl (hb hby d3_61) rfl k) ?_
          show Run _ _ _ _ _ _ _ s₁ (mkF m 62 #[.val (.ref a0), .val (.int p1), .val (.int p2), .val (.int z4)] [(.int z4)])
          refine retW X0 hx (t := .int) Bd.returns rfl (Or.inl ⟨rfl, Or.inl rfl, _, rfl⟩) (hb hby d3_62) hlk (by decide) (by decide) ?_
          show Q3 Z a0 p1 p2 k0 k1 k2 k3 h0 n0 _ s₁.heap _
          rw [e0]
          have hv' : z4 = (own_below [k0, k1, k2, k3] p1 p2) := by
            subst_vars
            unfold own_below
            rfl
          have hv : (some (.int z4) : Option Value) = some (.int (own_below [k0, k1, k2, k3] p1 p2)) := congrArg (fun z => (some (.int z) : Option Value)) hv'
          exact ⟨hv, N0, rfl⟩
        show Run _ _ _ _ _ _ _ s₁ (mkF m 48 #[.val (.ref a0), .val (.int p1), .val (.int p2), .val (.int z3)] [(.int (3 : Int32)), (.int p1)])
        by_cases hc48 : (3 : Int32) < p1
        · refine go (T' := s₁) (f' := (mkF m 51 #[.val (.ref a0), .val (.int p1), .val (.int p2), .val (.int z3)] [])) (by intro t k; exact XS.icmpNo X0.here hx rfl (hb hby d3_48) rfl (tlt hc48).2.2.2 k) ?_
          show Run _ _ _ _ _ _ _ s₁ (mkF m 51 #[.val (.ref a0), .val (.int p1), .val (.int p2), .val (.int z3)] [])
          refine go (T' := s₁) (f' := (mkF m 52 #[.val (.ref a0), .val (.int p1), .val (.int p2), .val (.int z3)] [(.ref a0)])) (by intro t k; exact XS.aloadN X0.here hx rfl (hb hby d3_51) rfl rfl k) ?_
          show Run _ _ _ _ _ _ _ s₁ (mkF m 52 #[.val (.ref a0), .val (.int p1), .val (.int p2), .val (.int z3)] [(.ref a0)])
          refine go (T' := s₁) (f' := (mkF m 53 #[.val (.ref a0), .val (.int p1), .val (.int p2), .val (.int z3)] [(.int (3 : Int32)), (.ref a0)])) (by intro t k; exact XS.iconst X0.here hx rfl (hb hby d3_52) k) ?_
          show Run _ _ _ _ _ _ _ s₁ (mkF m 53 #[.val (.ref a0), .val (.int p1), .val (.int p2), .val (.int z3)] [(.int (3 : Int32)), (.ref a0)])
          refine go (T' := s₁) (f' := (mkF m 54 #[.val (.ref a0), .val (.int p1), .val (.int p2), .val (.int z3)] [(.int k3)])) (by intro t k; exact ldI X0 hx hZ e0 A_a0 (j := (3 : Int32)) (v := (.int k3)) (by decide) rfl (g := (mkF m 53 #[.val (.ref a0), .val (.int p1), .val (.int p2), .val (.int z3)] [(.int (3 : Int32)), (.ref a0)])) rfl rfl (hb hby d3_53) _ k) ?_
          show Run _ _ _ _ _ _ _ s₁ (mkF m 54 #[.val (.ref a0), .val (.int p1), .val (.int p2), .val (.int z3)] [(.int k3)])
          refine go (T' := s₁) (f' := (mkF m 55 #[.val (.ref a0), .val (.int p1), .val (.int p2), .val (.int z3)] [(.int p2), (.int k3)])) (by intro t k; exact XS.iloadN X0.here hx rfl (hb hby d3_54) rfl k) ?_
          show Run _ _ _ _ _ _ _ s₁ (mkF m 55 #[.val (.ref a0), .val (.int p1), .val (.int p2), .val (.int z3)] [(.int p2), (.int k3)])
          by_cases hc55 : k3 < p2
          · refine go (T' := s₁) (f' := (mkF m 58 #[.val (.ref a0), .val (.int p1), .val (.int p2), .val (.int z3)] [])) (by intro t k; exact XS.icmpNo X0.here hx rfl (hb hby d3_55) rfl (tlt hc55).2.1 k) ?_
            show Run _ _ _ _ _ _ _ s₁ (mkF m 58 #[.val (.ref a0), .val (.int p1), .val (.int p2), .val (.int z3)] [])
            refine go (T' := s₁) (f' := (mkF m 61 #[.val (.ref a0), .val (.int p1), .val (.int p2), .val (.int (z3 + (1 : Int32)))] [])) (by intro t k; exact XS.iinc X0.here hx rfl (hb hby d3_58) rfl (l' := #[.val (.ref a0), .val (.int p1), .val (.int p2), .val (.int (z3 + (1 : Int32)))]) rfl k) ?_
            have ez4 : z4 = (z3 + (1 : Int32)) := ((hz4).trans (if_pos hc48)).trans (if_pos hc55)
            subst ez4
            exact J48
          · refine go (T' := s₁) (f' := (mkF m 61 #[.val (.ref a0), .val (.int p1), .val (.int p2), .val (.int z3)] [])) (by intro t k; exact XS.icmpYes X0.here hx rfl (pc0 := 55) (pc' := 61) rfl (hb hby d3_55) rfl (flt hc55).2.1 (by decide) (by decide) k) ?_
            have ez4 : z4 = z3 := ((hz4).trans (if_pos hc48)).trans (if_neg hc55)
            subst ez4
            exact J48
        · refine go (T' := s₁) (f' := (mkF m 61 #[.val (.ref a0), .val (.int p1), .val (.int p2), .val (.int z3)] [])) (by intro t k; exact XS.icmpYes X0.here hx rfl (pc0 := 48) (pc' := 61) rfl (hb hby d3_48) rfl (flt hc48).2.2.2 (by decide) (by decide) k) ?_
          have ez4 : z4 = z3 := (hz4).trans (if_neg hc48)
          subst ez4
          exact J48
      show Run _ _ _ _ _ _ _ s₁ (mkF m 33 #[.val (.ref a0), .val (.int p1), .val (.int p2), .val (.int z2)] [(.int (2 : Int32)), (.int p1)])
      by_cases hc33 : (2 : Int32) < p1
      · refine go (T' := s₁) (f' := (mkF m 36 #[.val (.ref a0), .val (.int p1), .val (.int p2), .val (.int z2)] [])) (by intro t k; exact XS.icmpNo X0.here hx rfl (hb hby d3_33) rfl (tlt hc33).2.2.2 k) ?_
        show Run _ _ _ _ _ _ _ s₁ (mkF m 36 #[.val (.ref a0), .val (.int p1), .val (.int p2), .val (.int z2)] [])
        refine go (T' := s₁) (f' := (mkF m 37 #[.val (.ref a0), .val (.int p1), .val (.int p2), .val (.int z2)] [(.ref a0)])) (by intro t k; exact XS.aloadN X0.here hx rfl (hb hby d3_36) rfl rfl k) ?_
        show Run _ _ _ _ _ _ _ s₁ (mkF m 37 #[.val (.ref a0), .val (.int p1), .val (.int p2), .val (.int z2)] [(.ref a0)])
        refine go (T' := s₁) (f' := (mkF m 38 #[.val (.ref a0), .val (.int p1), .val (.int p2), .val (.int z2)] [(.int (2 : Int32)), (.ref a0)])) (by intro t k; exact XS.iconst X0.here hx rfl (hb hby d3_37) k) ?_
        show Run _ _ _ _ _ _ _ s₁ (mkF m 38 #[.val (.ref a0), .val (.int p1), .val (.int p2), .val (.int z2)] [(.int (2 : Int32)), (.ref a0)])
        refine go (T' := s₁) (f' := (mkF m 39 #[.val (.ref a0), .val (.int p1), .val (.int p2), .val (.int z2)] [(.int k2)])) (by intro t k; exact ldI X0 hx hZ e0 A_a0 (j := (2 : Int32)) (v := (.int k2)) (by decide) rfl (g := (mkF m 38 #[.val (.ref a0), .val (.int p1), .val (.int p2), .val (.int z2)] [(.int (2 : Int32)), (.ref a0)])) rfl rfl (hb hby d3_38) _ k) ?_
        show Run _ _ _ _ _ _ _ s₁ (mkF m 39 #[.val (.ref a0), .val (.int p1), .val (.int p2), .val (.int z2)] [(.int k2)])
        refine go (T' := s₁) (f' := (mkF m 40 #[.val (.ref a0), .val (.int p1), .val (.int p2), .val (.int z2)] [(.int p2), (.int k2)])) (by intro t k; exact XS.iloadN X0.here hx rfl (hb hby d3_39) rfl k) ?_
        show Run _ _ _ _ _ _ _ s₁ (mkF m 40 #[.val (.ref a0), .val (.int p1), .val (.int p2), .val (.int z2)] [(.int p2), (.int k2)])
        by_cases hc40 : k2 < p2
        · refine go (T' := s₁) (f' := (mkF m 43 #[.val (.ref a0), .val (.int p1), .val (.int p2), .val (.int z2)] [])) (by intro t k; exact XS.icmpNo X0.here hx rfl (hb hby d3_40) rfl (tlt hc40).2.1 k) ?_
          show Run _ _ _ _ _ _ _ s₁ (mkF m 43 #[.val (.ref a0), .val (.int p1), .val (.int p2), .val (.int z2)] [])
          refine go (T' := s₁) (f' := (mkF m 46 #[.val (.ref a0), .val (.int p1), .val (.int p2), .val (.int (z2 + (1 : Int32)))] [])) (by intro t k; exact XS.iinc X0.here hx rfl (hb hby d3_43) rfl (l' := #[.val (.ref a0), .val (.int p1), .val (.int p2), .val (.int (z2 + (1 : Int32)))]) rfl k) ?_
          have ez3 : z3 = (z2 + (1 : Int32)) := ((hz3).trans (if_pos hc33)).trans (if_pos hc40)
          subst ez3
          exact J33
        · refine go (T' := s₁) (f' := (mkF m 46 #[.val (.ref a0), .val (.int p1), .val (.int p2), .val (.int z2)] [])) (by intro t k; exact XS.icmpYes X0.here hx rfl (pc0 := 40) (pc' := 46) rfl (hb hby d3_40) rfl (flt hc40).2.1 (by decide) (by decide) k) ?_
          have ez3 : z3 = z2 := ((hz3).trans (if_pos hc33)).trans (if_neg hc40)
          subst ez3
          exact J33
      · refine go (T' := s₁) (f' := (mkF m 46 #[.val (.ref a0), .val (.int p1), .val (.int p2), .val (.int z2)] [])) (by intro t k; exact XS.icmpYes X0.here hx rfl (pc0 := 33) (pc' := 46) rfl (hb hby d3_33) rfl (flt hc33).2.2.2 (by decide) (by decide) k) ?_
        have ez3 : z3 = z2 := (hz3).trans (if_neg hc33)
        subst ez3
        exact J33
    show Run _ _ _ _ _ _ _ s₁ (mkF m 18 #[.val (.ref a0), .val (.int p1), .val (.int p2), .val (.int z1)] [(.int (1 : Int32)), (.int p1)])
    by_cases hc18 : (1 : Int32) < p1
    · refine go (T' := s₁) (f' := (mkF m 21 #[.val (.ref a0), .val (.int p1), .val (.int p2), .val (.int z1)] [])) (by intro t k; exact XS.icmpNo X0.here hx rfl (hb hby d3_18) rfl (tlt hc18).2.2.2 k) ?_
      show Run _ _ _ _ _ _ _ s₁ (mkF m 21 #[.val (.ref a0), .val (.int p1), .val (.int p2), .val (.int z1)] [])
      refine go (T' := s₁) (f' := (mkF m 22 #[.val (.ref a0), .val (.int p1), .val (.int p2), .val (.int z1)] [(.ref a0)])) (by intro t k; exact XS.aloadN X0.here hx rfl (hb hby d3_21) rfl rfl k) ?_
      show Run _ _ _ _ _ _ _ s₁ (mkF m 22 #[.val (.ref a0), .val (.int p1), .val (.int p2), .val (.int z1)] [(.ref a0)])
      refine go (T' := s₁) (f' := (mkF m 23 #[.val (.ref a0), .val (.int p1), .val (.int p2), .val (.int z1)] [(.int (1 : Int32)), (.ref a0)])) (by intro t k; exact XS.iconst X0.here hx rfl (hb hby d3_22) k) ?_
      show Run _ _ _ _ _ _ _ s₁ (mkF m 23 #[.val (.ref a0), .val (.int p1), .val (.int p2), .val (.int z1)] [(.int (1 : Int32)), (.ref a0)])
      refine go (T' := s₁) (f' := (mkF m 24 #[.val (.ref a0), .val (.int p1), .val (.int p2), .val (.int z1)] [(.int k1)])) (by intro t k; exact ldI X0 hx hZ e0 A_a0 (j := (1 : Int32)) (v := (.int k1)) (by decide) rfl (g := (mkF m 23 #[.val (.ref a0), .val (.int p1), .val (.int p2), .val (.int z1)] [(.int (1 : Int32)), (.ref a0)])) rfl rfl (hb hby d3_23) _ k) ?_
      show Run _ _ _ _ _ _ _ s₁ (mkF m 24 #[.val (.ref a0), .val (.int p1), .val (.int p2), .val (.int z1)] [(.int k1)])
      refine go (T' := s₁) (f' := (mkF m 25 #[.val (.ref a0), .val (.int p1), .val (.int p2), .val (.int z1)] [(.int p2), (.int k1)])) (by intro t k; exact XS.iloadN X0.here hx rfl (hb hby d3_24) rfl k) ?_
      show Run _ _ _ _ _ _ _ s₁ (mkF m 25 #[.val (.ref a0), .val (.int p1), .val (.int p2), .val (.int z1)] [(.int p2), (.int k1)])
      by_cases hc25 : k1 < p2
      · refine go (T' := s₁) (f' := (mkF m 28 #[.val (.ref a0), .val (.int p1), .val (.int p2), .val (.int z1)] [])) (by intro t k; exact XS.icmpNo X0.here hx rfl (hb hby d3_25) rfl (tlt hc25).2.1 k) ?_
        show Run _ _ _ _ _ _ _ s₁ (mkF m 28 #[.val (.ref a0), .val (.int p1), .val (.int p2), .val (.int z1)] [])
        refine go (T' := s₁) (f' := (mkF m 31 #[.val (.ref a0), .val (.int p1), .val (.int p2), .val (.int (z1 + (1 : Int32)))] [])) (by intro t k; exact XS.iinc X0.here hx rfl (hb hby d3_28) rfl (l' := #[.val (.ref a0), .val (.int p1), .val (.int p2), .val (.int (z1 + (1 : Int32)))]) rfl k) ?_
        have ez2 : z2 = (z1 + (1 : Int32)) := ((hz2).trans (if_pos hc18)).trans (if_pos hc25)
        subst ez2
        exact J18
      · refine go (T' := s₁) (f' := (mkF m 31 #[.val (.ref a0), .val (.int p1), .val (.int p2), .val (.int z1)] [])) (by intro t k; exact XS.icmpYes X0.here hx rfl (pc0 := 25) (pc' := 31) rfl (hb hby d3_25) rfl (flt hc25).2.1 (by decide) (by decide) k) ?_
        have ez2 : z2 = z1 := ((hz2).trans (if_pos hc18)).trans (if_neg hc25)
        subst ez2
        exact J18
    · refine go (T' := s₁) (f' := (mkF m 31 #[.val (.ref a0), .val (.int p1), .val (.int p2), .val (.int z1)] [])) (by intro t k; exact XS.icmpYes X0.here hx rfl (pc0 := 18) (pc' := 31) rfl (hb hby d3_18) rfl (flt hc18).2.2.2 (by decide) (by decide) k) ?_
      have ez2 : z2 = z1 := (hz2).trans (if_neg hc18)
      subst ez2
      exact J18
  show Run _ _ _ _ _ _ _ s₁ (mkF m 3 #[.val (.ref a0), .val (.int p1), .val (.int p2), .val (.int (0 : Int32))] [(.int p1)])
  by_cases hc3 : (0 : Int32) < p1
  · refine go (T' := s₁) (f' := (mkF m 6 #[.val (.ref a0), .val (.int p1), .val (.int p2), .val (.int (0 : Int32))] [])) (by intro t k; exact XS.ifNo X0.here hx rfl (hb hby d3_3) rfl ((if0 _ _).trans (tlt hc3).2.2.2) k) ?_
    show Run _ _ _ _ _ _ _ s₁ (mkF m 6 #[.val (.ref a0), .val (.int p1), .val (.int p2), .val (.int (0 : Int32))] [])
    refine go (T' := s₁) (f' := (mkF m 7 #[.val (.ref a0), .val (.int p1), .val (.int p2), .val (.int (0 : Int32))] [(.ref a0)])) (by intro t k; exact XS.aloadN X0.here hx rfl (hb hby d3_6) rfl rfl k) ?_
    show Run _ _ _ _ _ _ _ s₁ (mkF m 7 #[.val (.ref a0), .val (.int p1), .val (.int p2), .val (.int (0 : Int32))] [(.ref a0)])
    refine go (T' := s₁) (f' := (mkF m 8 #[.val (.ref a0), .val (.int p1), .val (.int p2), .val (.int (0 : Int32))] [(.int (0 : Int32)), (.ref a0)])) (by intro t k; exact XS.iconst X0.here hx rfl (hb hby d3_7) k) ?_
    show Run _ _ _ _ _ _ _ s₁ (mkF m 8 #[.val (.ref a0), .val (.int p1), .val (.int p2), .val (.int (0 : Int32))] [(.int (0 : Int32)), (.ref a0)])
    refine go (T' := s₁) (f' := (mkF m 9 #[.val (.ref a0), .val (.int p1), .val (.int p2), .val (.int (0 : Int32))] [(.int k0)])) (by intro t k; exact ldI X0 hx hZ e0 A_a0 (j := (0 : Int32)) (v := (.int k0)) (by decide) rfl (g := (mkF m 8 #[.val (.ref a0), .val (.int p1), .val (.int p2), .val (.int (0 : Int32))] [(.int (0 : Int32)), (.ref a0)])) rfl rfl (hb hby d3_8) _ k) ?_
    show Run _ _ _ _ _ _ _ s₁ (mkF m 9 #[.val (.ref a0), .val (.int p1), .val (.int p2), .val (.int (0 : Int32))] [(.int k0)])
    refine go (T' := s₁) (f' := (mkF m 10 #[.val (.ref a0), .val (.int p1), .val (.int p2), .val (.int (0 : Int32))] [(.int p2), (.int k0)])) (by intro t k; exact XS.iloadN X0.here hx rfl (hb hby d3_9) rfl k) ?_
    show Run _ _ _ _ _ _ _ s₁ (mkF m 10 #[.val (.ref a0), .val (.int p1), .val (.int p2), .val (.int (0 : Int32))] [(.int p2), (.int k0)])
    by_cases hc10 : k0 < p2
    · refine go (T' := s₁) (f' := (mkF m 13 #[.val (.ref a0), .val (.int p1), .val (.int p2), .val (.int (0 : Int32))] [])) (by intro t k; exact XS.icmpNo X0.here hx rfl (hb hby d3_10) rfl (tlt hc10).2.1 k) ?_
      show Run _ _ _ _ _ _ _ s₁ (mkF m 13 #[.val (.ref a0), .val (.int p1), .val (.int p2), .val (.int (0 : Int32))] [])
      refine go (T' := s₁) (f' := (mkF m 16 #[.val (.ref a0), .val (.int p1), .val (.int p2), .val (.int (1 : Int32))] [])) (by intro t k; exact XS.iinc X0.here hx rfl (hb hby d3_13) rfl (l' := #[.val (.ref a0), .val (.int p1), .val (.int p2), .val (.int (1 : Int32))]) rfl k) ?_
      have ez1 : z1 = (1 : Int32) := ((hz1).trans (if_pos hc3)).trans (if_pos hc10)
      subst ez1
      exact J3
    · refine go (T' := s₁) (f' := (mkF m 16 #[.val (.ref a0), .val (.int p1), .val (.int p2), .val (.int (0 : Int32))] [])) (by intro t k; exact XS.icmpYes X0.here hx rfl (pc0 := 10) (pc' := 16) rfl (hb hby d3_10) rfl (flt hc10).2.1 (by decide) (by decide) k) ?_
      have ez1 : z1 = (0 : Int32) := ((hz1).trans (if_pos hc3)).trans (if_neg hc10)
      subst ez1
      exact J3
  · refine go (T' := s₁) (f' := (mkF m 16 #[.val (.ref a0), .val (.int p1), .val (.int p2), .val (.int (0 : Int32))] [])) (by intro t k; exact XS.ifYes X0.here hx rfl (pc0 := 3) (pc' := 16) rfl (hb hby d3_3) rfl ((if0 _ _).trans (flt hc3).2.2.2) (by decide) (by decide) k) ?_
    have ez1 : z1 = (0 : Int32) := (hz1).trans (if_neg hc3)
    subst ez1
    exact J3
theorem d2_0 : decode method_3_code 0 = .ok (.iload 4, 2) := by decide +kernel
theorem d2_2 : decode method_3_code 2 = .ok (.iload_n 3, 1) := by decide +kernel
theorem d2_3 : decode method_3_code 3 = .ok (.if_icmp .le 5, 3) := by decide +kernel
theorem d2_6 : decode method_3_code 6 = .ok (.iconst 1, 1) := by decide +kernel
theorem d2_7 : decode method_3_code 7 = .ok (.ireturn, 1) := by decide +kernel
theorem d2_8 : decode method_3_code 8 = .ok (.aload_n 0, 1) := by decide +kernel
theorem d2_9 : decode method_3_code 9 = .ok (.iload 4, 2) := by decide +kernel
theorem d2_11 : decode method_3_code 11 = .ok (.iaload, 1) := by decide +kernel
theorem d2_12 : decode method_3_code 12 = .ok (.aload_n 1, 1) := by decide +kernel
theorem d2_13 : decode method_3_code 13 = .ok (.iload_n 2, 1) := by decide +kernel
theorem d2_14 : decode method_3_code 14 = .ok (.iload 4, 2) := by decide +kernel
theorem d2_16 : decode method_3_code 16 = .ok (.invokestatic 20, 3) := by decide +kernel
theorem d2_19 : decode method_3_code 19 = .ok (.if_icmp .ne 7, 3) := by decide +kernel
theorem d2_22 : decode method_3_code 22 = .ok (.iconst 1, 1) := by decide +kernel
theorem d2_23 : decode method_3_code 23 = .ok (.goto 4, 3) := by decide +kernel
theorem d2_26 : decode method_3_code 26 = .ok (.iconst 0, 1) := by decide +kernel
theorem d2_27 : decode method_3_code 27 = .ok (.ireturn, 1) := by decide +kernel
theorem pd_285bIII29I : parseMethodDescriptor "([III)I" = some ⟨[(.array .int), .int, .int], some .int⟩ := by decide +kernel
theorem ef_2 (m : MethodId) (x0 : Addr) (x1 : Addr) (x2 : Int32) (x3 : Int32) (x4 : Int32) : entryFrame m #[(.ref x0), (.ref x1), (.int x2), (.int x3), (.int x4)] 5 = mkF m 0 #[.val (.ref x0), .val (.ref x1), .val (.int x2), .val (.int x3), .val (.int x4)] [] := by first | (simp [entryFrame, mkF, argsToLocals, Value.category]; done) | rfl
def Q2 (Z : State) (a0 : Addr) (a1 : Addr) (p2 : Int32) (p3 : Int32) (p4 : Int32) (rs : List Int32) (k0 k1 k2 k3 : Int32) (h0 : Heap) (n0 : Nat) (v : Option Value) (h : Heap) (L : List Loc) : Prop := v = some (.int (own_check rs [k0, k1, k2, k3] p2 p3 p4)) ∧ Fr n0 L ∧ h = h0
set_option maxRecDepth 65536 in
set_option maxHeartbeats 40000000 in
theorem rm2 (l : Launch) (Z : State) (aw : Array Value) (hw : ∀ d ∈ tables_1, d.before aw Z = true) (ws : List Jvm.Cond) (a0 : Addr) (a1 : Addr) (p2 : Int32) (p3 : Int32) (p4 : Int32) (rs : List Int32) (k0 k1 k2 k3 : Int32) (h0 : Heap) (n0 : Nat) (Z0 : n0 ≤ h0.size) (A_r : Ary Z h0 a0 .int (List.map Value.int rs)) (A_k : Ary Z h0 a1 .int [(.int k0), (.int k1), (.int k2), (.int k3)]) (hk : ¬ p4 < 0) (hlen : ¬ p3 < p4 → p4.toNatClampNeg < rs.length) :
    MetFree l (⟨"com/example/settle/settle/model/IntArraysStartsPinLaw", "check", "([I[IIII)Z"⟩ : MethodName) (head1 (Jvm.Cond.code (⟨"com/example/settle/settle/model/IntArraysStartsPinLaw", "check", "([I[IIII)Z"⟩ : MethodName) method_3_code 5 (some .boolean) :: ws) ({ frames := 1, cells := 0, slots := 0, locals := 16 } : Room)) (fun a U => a = #[(.ref a0), (.ref a1), (.int p2), (.int p3), (.int p4)] ∧ Z.Warmed39 U.vm ∧ U.heap = h0) (fun _ _ _ _ _ => True) (fun _ U o U' => ∃ v L, o = .returned v ∧ Q2 Z a0 a1 p2 p3 p4 rs k0 k1 k2 k3 h0 n0 v U'.heap L ∧ FrameEnd U o U' L ({ frames := 1, cells := 0, slots := 0, locals := 16 } : Room).cells ({ frames := 1, cells := 0, slots := 0, locals := 16 } : Room).slots) := by
  refine MetFree.of_bodySF (plainFor_of_name pn_3) hisR ?_
  intro p e s m args below meth c s₁ Bd hml0 hP hK
  obtain ⟨rfl, hZ, hh⟩ := hP
  have hx := Bd.exec
  have hby := Bd.bytes
  have hml : c.maxLocals = 5 := hml0
  have hown : s.vm.findClass "com/example/settle/settle/model/IntArraysStartsPinLaw" = some m.cls := findClass_of_methodNamed Bd.named
  have hnm := (name_of_methodNamed Bd.named Bd.method).1
  have hlk : meth.locks = false := BodyLoose.notSynchronized Bd
  have X0 : Stand p l e ({ frames := 1, cells := 0, slots := 0, locals := 16 } : Room) s m #[(.ref a0), (.ref a1), (.int p2), (.int p3), (.int p4)] below meth c s₁ [] 0 0 := Stand.of_body Bd
  have e0 : s₁.heap = h0 := by rw [← hh, Bd.state]; rfl
  have N0 := Fr.nil n0
  show Run p e s below (Q2 Z a0 a1 p2 p3 p4 rs k0 k1 k2 k3 h0 n0) ({ frames := 1, cells := 0, slots := 0, locals := 16 } : Room).cells ({ frames := 1, cells := 0, slots := 0, locals := 16 } : Room).slots s₁ (entryFrame m #[(.ref a0), (.ref a1), (.int p2), (.int p3), (.int p4)] 5)
  rw [ef_2]
  show Run _ _ _ _ _ _ _ s₁ (mkF m 0 #[.val (.ref a0), .val (.ref a1), .val (.int p2), .val (.int p3), .val (.int p4)] [])
  refine go (T' := s₁) (f' := (mkF m 2 #[.val (.ref a0), .val (.ref a1), .val (.int p2), .val (.int p3), .val (.int p4)] [(.int p4)])) (by intro t k; exact XS.iload X0.here hx rfl (hb hby d2_0) rfl k) ?_
  show Run _ _ _ _ _ _ _ s₁ (mkF m 2 #[.val (.ref a0), .val (.ref a1), .val (.int p2), .val (.int p3), .val (.int p4)] [(.int p4)])
  refine go (T' := s₁) (f' := (mkF m 3 #[.val (.ref a0), .val (.ref a1), .val (.int p2), .val (.int p3), .val (.int p4)] [(.int p3), (.int p4)])) (by intro t k; exact XS.iloadN X0.here hx rfl (hb hby d2_2) rfl k) ?_
  show Run _ _ _ _ _ _ _ s₁ (mkF m 3 #[.val (.ref a0), .val (.ref a1), .val (.int p2), .val (.int p3), .val (.int p4)] [(.int p3), (.int p4)])
  by_cases hc3 : p3 < p4
  · refine go (T' := s₁) (f' := (mkF m 6 #[.val (.ref a0), .val (.ref a1), .val (.int p2), .val (.int p3), .val (.int p4)] [])) (by intro t k; exact XS.icmpNo X0.here hx rfl (hb hby d2_3) rfl (tlt hc3).2.2.2 k) ?_
    show Run _ _ _ _ _ _ _ s₁ (mkF m 6 #[.val (.ref a0), .val (.ref a1), .val (.int p2), .val (.int p3), .val (.int p4)] [])
    refine go (T' := s₁) (f' := (mkF m 7 #[.val (.ref a0), .val (.ref a1), .val (.int p2), .val (.int p3), .val (.int p4)] [(.int (1 : Int32))])) (by intro t k; exact XS.iconst X0.here hx rfl (hb hby d2_6) k) ?_
    show Run _ _ _ _ _ _ _ s₁ (mkF m 7 #[.val (.ref a0), .val (.ref a1), .val (.int p2), .val (.int p3), .val (.int p4)] [(.int (1 : Int32))])
    refine retZ X0 hx (t := .boolean) Bd.returns (by simp) (hb hby d2_7) hlk (by decide) (by decide) ?_
    show Q2 Z a0 a1 p2 p3 p4 rs k0 k1 k2 k3 h0 n0 _ s₁.heap _
    rw [e0]
    have hv' : (nar .boolean (1 : Int32)) = (own_check rs [k0, k1, k2, k3] p2 p3 p4) := by
      unfold own_check
      rw [if_pos hc3]
      rfl
    have hv : (some (.int (nar .boolean (1 : Int32))) : Option Value) = some (.int (own_check rs [k0, k1, k2, k3] p2 p3 p4)) := congrArg (fun z => (some (.int z) : Option Value)) hv'
    exact ⟨hv, N0, rfl⟩
  · refine go (T' := s₁) (f' := (mkF m 8 #[.val (.ref a0), .val (.ref a1), .val (.int p2), .val (.int p3), .val (.int p4)] [])) (by intro t k; exact XS.icmpYes X0.here hx rfl (pc0 := 3) (pc' := 8) rfl (hb hby d2_3) rfl (flt hc3).2.2.2 (by decide) (by decide) k) ?_
    show Run _ _ _ _ _ _ _ s₁ (mkF m 8 #[.val (.ref a0), .val (.ref a1), .val (.int p2), .val (.int p3), .val (.int p4)] [])
    refine go (T' := s₁) (f' := (mkF m 9 #[.val (.ref a0), .val (.ref a1), .val (.int p2), .val (.int p3), .val (.int p4)] [(.ref a0)])) (by intro t k; exact XS.aloadN X0.here hx rfl (hb hby d2_8) rfl rfl k) ?_
    show Run _ _ _ _ _ _ _ s₁ (mkF m 9 #[.val (.ref a0), .val (.ref a1), .val (.int p2), .val (.int p3), .val (.int p4)] [(.ref a0)])
    refine go (T' := s₁) (f' := (mkF m 11 #[.val (.ref a0), .val (.ref a1), .val (.int p2), .val (.int p3), .val (.int p4)] [(.int p4), (.ref a0)])) (by intro t k; exact XS.iload X0.here hx rfl (hb hby d2_9) rfl k) ?_
    show Run _ _ _ _ _ _ _ s₁ (mkF m 11 #[.val (.ref a0), .val (.ref a1), .val (.int p2), .val (.int p3), .val (.int p4)] [(.int p4), (.ref a0)])
    refine go (T' := s₁) (f' := (mkF m 12 #[.val (.ref a0), .val (.ref a1), .val (.int p2), .val (.int p3), .val (.int p4)] [(.int (rs.getD (p4).toNatClampNeg 0))])) (by intro t k; exact ldI X0 hx hZ e0 A_r (j := p4) (v := (.int (rs.getD (p4).toNatClampNeg 0))) hk (getI (hlen hc3)) (g := (mkF m 11 #[.val (.ref a0), .val (.ref a1), .val (.int p2), .val (.int p3), .val (.int p4)] [(.int p4), (.ref a0)])) rfl rfl (hb hby d2_11) _ k) ?_
    show Run _ _ _ _ _ _ _ s₁ (mkF m 12 #[.val (.ref a0), .val (.ref a1), .val (.int p2), .val (.int p3), .val (.int p4)] [(.int (rs.getD (p4).toNatClampNeg 0))])
    refine go (T' := s₁) (f' := (mkF m 13 #[.val (.ref a0), .val (.ref a1), .val (.int p2), .val (.int p3), .val (.int p4)] [(.ref a1), (.int (rs.getD (p4).toNatClampNeg 0))])) (by intro t k; exact XS.aloadN X0.here hx rfl (hb hby d2_12) rfl rfl k) ?_
    show Run _ _ _ _ _ _ _ s₁ (mkF m 13 #[.val (.ref a0), .val (.ref a1), .val (.int p2), .val (.int p3), .val (.int p4)] [(.ref a1), (.int (rs.getD (p4).toNatClampNeg 0))])
    refine go (T' := s₁) (f' := (mkF m 14 #[.val (.ref a0), .val (.ref a1), .val (.int p2), .val (.int p3), .val (.int p4)] [(.int p2), (.ref a1), (.int (rs.getD (p4).toNatClampNeg 0))])) (by intro t k; exact XS.iloadN X0.here hx rfl (hb hby d2_13) rfl k) ?_
    show Run _ _ _ _ _ _ _ s₁ (mkF m 14 #[.val (.ref a0), .val (.ref a1), .val (.int p2), .val (.int p3), .val (.int p4)] [(.int p2), (.ref a1), (.int (rs.getD (p4).toNatClampNeg 0))])
    refine go (T' := s₁) (f' := (mkF m 16 #[.val (.ref a0), .val (.ref a1), .val (.int p2), .val (.int p3), .val (.int p4)] [(.int p4), (.int p2), (.ref a1), (.int (rs.getD (p4).toNatClampNeg 0))])) (by intro t k; exact XS.iload X0.here hx rfl (hb hby d2_14) rfl k) ?_
    show Run _ _ _ _ _ _ _ s₁ (mkF m 16 #[.val (.ref a0), .val (.ref a1), .val (.int p2), .val (.int p3), .val (.int p4)] [(.int p4), (.int p2), (.ref a1), (.int (rs.getD (p4).toNatClampNeg 0))])
    obtain ⟨_, _, ⟨T1, Lz1, kz1, nz1⟩, -, X1, ⟨Lc1, hQ1, lz1, yz1, zz1⟩, st1⟩ := Jvm.LawKit.callS X0 hx (y := (⟨"com/example/settle/settle/model/IntArraysStartsPinLaw", "below", "([III)I"⟩ : MethodName)) hown (mvT hZ (hw _ (List.mem_of_getElem? (i := 10) rfl))) (mvT hZ (hw _ (List.mem_of_getElem? (i := 11) rfl))) (mvT hZ (hw _ (List.mem_of_getElem? (i := 8) rfl))) (mvT hZ (hw _ (List.mem_of_getElem? (i := 12) rfl))) (by decide) (backOf (W := 1) (rm3 l Z aw hw [] a1 p2 p4 k0 k1 k2 k3 h0 n0 Z0 A_k) hZ (hw _ (List.mem_of_getElem? (i := 12) rfl)) (hw _ (List.mem_of_getElem? (i := 8) rfl)) (by decide) (by decide)) (g := (mkF m 16 #[.val (.ref a0), .val (.ref a1), .val (.int p2), .val (.int p3), .val (.int p4)] [(.int p4), (.int p2), (.ref a1), (.int (rs.getD (p4).toNatClampNeg 0))])) rfl (by rw [hml]; rfl) (argsL := [(.ref a1), (.int p2), (.int p4)]) (rest := [(.int (rs.getD (p4).toNatClampNeg 0))]) (lenOf pd_285bIII29I rfl) rfl (by show 2 * 0 + _ ≤ _; exact Nat.le_of_eq rfl) (hb hby d2_16) (fun _ _ => ⟨rfl, e0, (by decide : 0 + 0 ≤ _), (by decide : 0 + 0 ≤ _)⟩)
    dsimp only [Pt.U, Pt.locs, Pt.cells, Pt.slots] at X1 lz1 yz1 zz1 st1 hQ1
    subst lz1 yz1 zz1
    obtain ⟨rfl, N1q, e1⟩ := hQ1
    have N1 := Fr.app N0 N1q
    refine go st1 ?_
    show Run _ _ _ _ _ _ _ T1 (mkF m 19 #[.val (.ref a0), .val (.ref a1), .val (.int p2), .val (.int p3), .val (.int p4)] [(.int (own_below [k0, k1, k2, k3] p2 p4)), (.int (rs.getD (p4).toNatClampNeg 0))])
    obtain ⟨z2, hz2⟩ : ∃ z : Int32, z = (if (rs.getD (p4).toNatClampNeg 0) = (own_below [k0, k1, k2, k3] p2 p4) then (1 : Int32) else (0 : Int32)) := ⟨_, rfl⟩
    have J19 : Run p e s below (Q2 Z a0 a1 p2 p3 p4 rs k0 k1 k2 k3 h0 n0) ({ frames := 1, cells := 0, slots := 0, locals := 16 } : Room).cells ({ frames := 1, cells := 0, slots := 0, locals := 16 } : Room).slots T1 (mkF m 27 #[.val (.ref a0), .val (.ref a1), .val (.int p2), .val (.int p3), .val (.int p4)] [(.int z2)]) := by
      show Run _ _ _ _ _ _ _ T1 (mkF m 27 #[.val (.ref a0), .val (.ref a1), .val (.int p2), .val (.int p3), .val (.int p4)] [(.int z2)])
      refine retZ X1 hx (t := .boolean) Bd.returns (by simp) (hb hby d2_27) hlk (by decide) (by decide) ?_
      show Q2 Z a0 a1 p2 p3 p4 rs k0 k1 k2 k3 h0 n0 _ T1.heap _
      rw [e1]
      have hv' : (nar .boolean z2) = (own_check rs [k0, k1, k2, k3] p2 p3 p4) := by
        subst_vars
        unfold own_check
        rw [if_neg hc3]
        first | rfl | (split <;> rfl)
      have hv : (some (.int (nar .boolean z2)) : Option Value) = some (.int (own_check rs [k0, k1, k2, k3] p2 p3 p4)) := congrArg (fun z => (some (.int z) : Option Value)) hv'
      exact ⟨hv, N1, rfl⟩
    show Run _ _ _ _ _ _ _ T1 (mkF m 19 #[.val (.ref a0), .val (.ref a1), .val (.int p2), .val (.int p3), .val (.int p4)] [(.int (own_below [k0, k1, k2, k3] p2 p4)), (.int (rs.getD (p4).toNatClampNeg 0))])
    by_cases hc19 : (rs.getD (p4).toNatClampNeg 0) = (own_below [k0, k1, k2, k3] p2 p4)
    · refine go (T' := T1) (f' := (mkF m 22 #[.val (.ref a0), .val (.ref a1), .val (.int p2), .val (.int p3), .val (.int p4)] [])) (by intro t k; exact XS.icmpNo X1.here hx rfl (hb hby d2_19) rfl (teq hc19).2 k) ?_
      show Run _ _ _ _ _ _ _ T1 (mkF m 22 #[.val (.ref a0), .val (.ref a1), .val (.int p2), .val (.int p3), .val (.int p4)] [])
      refine go (T' := T1) (f' := (mkF m 23 #[.val (.ref a0), .val (.ref a1), .val (.int p2), .val (.int p3), .val (.int p4)] [(.int (1 : Int32))])) (by intro t k; exact XS.iconst X1.here hx rfl (hb hby d2_22) k) ?_
      show Run _ _ _ _ _ _ _ T1 (mkF m 23 #[.val (.ref a0), .val (.ref a1), .val (.int p2), .val (.int p3), .val (.int p4)] [(.int (1 : Int32))])
      refine go (T' := T1) (f' := (mkF m 27 #[.val (.ref a0), .val (.ref a1), .val (.int p2), .val (.int p3), .val (.int p4)] [(.int (1 : Int32))])) (by intro t k; exact XS.goto X1.here hx rfl (pc0 := 23) (pc' := 27) rfl (hb hby d2_23) (by decide) (by decide) k) ?_
      have ez2 : z2 = (1 : Int32) := (hz2).trans (if_pos hc19)
      subst ez2
      exact J19
    · refine go (T' := T1) (f' := (mkF m 26 #[.val (.ref a0), .val (.ref a1), .val (.int p2), .val (.int p3), .val (.int p4)] [])) (by intro t k; exact XS.icmpYes X1.here hx rfl (pc0 := 19) (pc' := 26) rfl (hb hby d2_19) rfl (feq hc19).2 (by decide) (by decide) k) ?_
      show Run _ _ _ _ _ _ _ T1 (mkF m 26 #[.val (.ref a0), .val (.ref a1), .val (.int p2), .val (.int p3), .val (.int p4)] [])
      refine go (T' := T1) (f' := (mkF m 27 #[.val (.ref a0), .val (.ref a1), .val (.int p2), .val (.int p3), .val (.int p4)] [(.int (0 : Int32))])) (by intro t k; exact XS.iconst X1.here hx rfl (hb hby d2_26) k) ?_
      have ez2 : z2 = (0 : Int32) := (hz2).trans (if_neg hc19)
      subst ez2
      exact J19
theorem d1_0 : decode prog_52_method_3_code 0 = .ok (.iload_n 2, 1) := by decide +kernel
theorem d1_1 : decode prog_52_method_3_code 1 = .ok (.iconst 1, 1) := by decide +kernel
theorem d1_2 : decode prog_52_method_3_code 2 = .ok (.iadd, 1) := by decide +kernel
theorem d1_3 : decode prog_52_method_3_code 3 = .ok (.newarray .int, 2) := by decide +kernel
theorem d1_5 : decode prog_52_method_3_code 5 = .ok (.astore_n 3, 1) := by decide +kernel
theorem d1_6 : decode prog_52_method_3_code 6 = .ok (.iconst 0, 1) := by decide +kernel
theorem d1_7 : decode prog_52_method_3_code 7 = .ok (.istore 4, 2) := by decide +kernel
theorem d1_9 : decode prog_52_method_3_code 9 = .ok (.iload 4, 2) := by decide +kernel
theorem d1_11 : decode prog_52_method_3_code 11 = .ok (.iload_n 1, 1) := by decide +kernel
theorem d1_12 : decode prog_52_method_3_code 12 = .ok (.if_icmp .ge 21, 3) := by decide +kernel
theorem d1_15 : decode prog_52_method_3_code 15 = .ok (.aload_n 3, 1) := by decide +kernel
theorem d1_16 : decode prog_52_method_3_code 16 = .ok (.aload_n 0, 1) := by decide +kernel
theorem d1_17 : decode prog_52_method_3_code 17 = .ok (.iload 4, 2) := by decide +kernel
theorem d1_19 : decode prog_52_method_3_code 19 = .ok (.iaload, 1) := by decide +kernel
theorem d1_20 : decode prog_52_method_3_code 20 = .ok (.iconst 1, 1) := by decide +kernel
theorem d1_21 : decode prog_52_method_3_code 21 = .ok (.iadd, 1) := by decide +kernel
theorem d1_22 : decode prog_52_method_3_code 22 = .ok (.dup2, 1) := by decide +kernel
theorem d1_23 : decode prog_52_method_3_code 23 = .ok (.iaload, 1) := by decide +kernel
theorem d1_24 : decode prog_52_method_3_code 24 = .ok (.iconst 1, 1) := by decide +kernel
theorem d1_25 : decode prog_52_method_3_code 25 = .ok (.iadd, 1) := by decide +kernel
theorem d1_26 : decode prog_52_method_3_code 26 = .ok (.iastore, 1) := by decide +kernel
theorem d1_27 : decode prog_52_method_3_code 27 = .ok (.iinc 4 1, 3) := by decide +kernel
theorem d1_30 : decode prog_52_method_3_code 30 = .ok (.goto (-21), 3) := by decide +kernel
theorem d1_33 : decode prog_52_method_3_code 33 = .ok (.iconst 0, 1) := by decide +kernel
theorem d1_34 : decode prog_52_method_3_code 34 = .ok (.istore 4, 2) := by decide +kernel
theorem d1_36 : decode prog_52_method_3_code 36 = .ok (.iload 4, 2) := by decide +kernel
theorem d1_38 : decode prog_52_method_3_code 38 = .ok (.iload_n 2, 1) := by decide +kernel
theorem d1_39 : decode prog_52_method_3_code 39 = .ok (.if_icmp .ge 22, 3) := by decide +kernel
theorem d1_42 : decode prog_52_method_3_code 42 = .ok (.aload_n 3, 1) := by decide +kernel
theorem d1_43 : decode prog_52_method_3_code 43 = .ok (.iload 4, 2) := by decide +kernel
theorem d1_45 : decode prog_52_method_3_code 45 = .ok (.iconst 1, 1) := by decide +kernel
theorem d1_46 : decode prog_52_method_3_code 46 = .ok (.iadd, 1) := by decide +kernel
theorem d1_47 : decode prog_52_method_3_code 47 = .ok (.dup2, 1) := by decide +kernel
theorem d1_48 : decode prog_52_method_3_code 48 = .ok (.iaload, 1) := by decide +kernel
theorem d1_49 : decode prog_52_method_3_code 49 = .ok (.aload_n 3, 1) := by decide +kernel
theorem d1_50 : decode prog_52_method_3_code 50 = .ok (.iload 4, 2) := by decide +kernel
theorem d1_52 : decode prog_52_method_3_code 52 = .ok (.iaload, 1) := by decide +kernel
theorem d1_53 : decode prog_52_method_3_code 53 = .ok (.iadd, 1) := by decide +kernel
theorem d1_54 : decode prog_52_method_3_code 54 = .ok (.iastore, 1) := by decide +kernel
theorem d1_55 : decode prog_52_method_3_code 55 = .ok (.iinc 4 1, 3) := by decide +kernel
theorem d1_58 : decode prog_52_method_3_code 58 = .ok (.goto (-22), 3) := by decide +kernel
theorem d1_61 : decode prog_52_method_3_code 61 = .ok (.aload_n 3, 1) := by decide +kernel
theorem d1_62 : decode prog_52_method_3_code 62 = .ok (.areturn, 1) := by decide +kernel
theorem pn_1 : plainName "com/example/settle/settle/model/IntArrays" = true := by first | (simp [plainName, overriddenIn]; done) | decide +kernel
theorem ef_1 (m : MethodId) (x0 : Addr) (x1 : Int32) (x2 : Int32) : entryFrame m #[(.ref x0), (.int x1), (.int x2)] 5 = mkF m 0 #[.val (.ref x0), .val (.int x1), .val (.int x2), .unset, .unset] [] := by first | (simp [entryFrame, mkF, argsToLocals, Value.category]; done) | rfl
def Q1 (Z : State) (a0 : Addr) (p1 : Int32) (p2 : Int32) (k0 k1 k2 k3 : Int32) (h0 : Heap) (n0 : Nat) (v : Option Value) (h : Heap) (L : List Loc) : Prop := ∃ r : Addr, v = some (.ref r) ∧ h0.size ≤ r ∧ Fr n0 L ∧ Keep h0 h [] ∧ Ary Z h r .int (List.map Value.int (own_st [k0, k1, k2, k3] p1 p2))
set_option maxRecDepth 65536 in
set_option maxHeartbeats 40000000 in
theorem rm1 (l : Launch) (Z : State) (aw : Array Value) (hw : ∀ d ∈ tables_1, d.before aw Z = true) (ws : List Jvm.Cond) (a0 : Addr) (p1 : Int32) (p2 : Int32) (k0 k1 k2 k3 : Int32) (h0 : Heap) (n0 : Nat) (Z0 : n0 ≤ h0.size) (A_a0 : Ary Z h0 a0 .int [(.int k0), (.int k1), (.int k2), (.int k3)]) (hkc : 0 ≤ p2.toInt ∧ p2.toInt ≤ 4) (hcnt : 0 ≤ p1.toInt ∧ p1.toInt ≤ 4) (hks : ∀ i, i < p1.toNatClampNeg → 0 ≤ ([k0, k1, k2, k3].getD i 0).toInt ∧ ([k0, k1, k2, k3].getD i 0).toInt < p2.toInt) :
    MetFree l (⟨"com/example/settle/settle/model/IntArrays", "starts", "([III)[I"⟩ : MethodName) (head1 (Jvm.Cond.code (⟨"com/example/settle/settle/model/IntArrays", "starts", "([III)[I"⟩ : MethodName) prog_52_method_3_code 5 (some (.array .int)) :: ws) ({ frames := 0, cells := 1, slots := 5, locals := 0 } : Room)) (fun a U => a = #[(.ref a0), (.int p1), (.int p2)] ∧ Z.Warmed39 U.vm ∧ U.heap = h0) (fun _ _ _ _ _ => True) (fun _ U o U' => ∃ v L, o = .returned v ∧ Q1 Z a0 p1 p2 k0 k1 k2 k3 h0 n0 v U'.heap L ∧ FrameEnd U o U' L ({ frames := 0, cells := 1, slots := 5, locals := 0 } : Room).cells ({ frames := 0, cells := 1, slots := 5, locals := 0 } : Room).slots) := by
  refine MetFree.of_bodySF (plainFor_of_name pn_1) hisR ?_
  intro p e s m args below meth c s₁ Bd hml0 hP hK
  obtain ⟨rfl, hZ, hh⟩ := hP
  have hx := Bd.exec
  have hby := Bd.bytes
  have hml : c.maxLocals = 5 := hml0
  have hown : s.vm.findClass "com/example/settle/settle/model/IntArrays" = some m.cls := findClass_of_methodNamed Bd.named
  have hnm := (name_of_methodNamed Bd.named Bd.method).1
  have hlk : meth.locks = false := BodyLoose.notSynchronized Bd
  have X0 : Stand p l e ({ frames := 0, cells := 1, slots := 5, locals := 0 } : Room) s m #[(.ref a0), (.int p1), (.int p2)] below meth c s₁ [] 0 0 := Stand.of_body Bd
  have e0 : s₁.heap = h0 := by rw [← hh, Bd.state]; rfl
  have N0 := Fr.nil n0
  show Run p e s below (Q1 Z a0 p1 p2 k0 k1 k2 k3 h0 n0) ({ frames := 0, cells := 1, slots := 5, locals := 0 } : Room).cells ({ frames := 0, cells := 1, slots := 5, locals := 0 } : Room).slots s₁ (entryFrame m #[(.ref a0), (.int p1), (.int p2)] 5)
  rw [ef_1]
  show Run _ _ _ _ _ _ _ s₁ (mkF m 0 #[.val (.ref a0), .val (.int p1), .val (.int p2), .unset, .unset] [])
  refine go (T' := s₁) (f' := (mkF m 1 #[.val (.ref a0), .val (.int p1), .val (.int p2), .unset, .unset] [(.int p2)])) (by intro t k; exact XS.iloadN X0.here hx rfl (hb hby d1_0) rfl k) ?_
  show Run _ _ _ _ _ _ _ s₁ (mkF m 1 #[.val (.ref a0), .val (.int p1), .val (.int p2), .unset, .unset] [(.int p2)])
  refine go (T' := s₁) (f' := (mkF m 2 #[.val (.ref a0), .val (.int p1), .val (.int p2), .unset, .unset] [(.int (1 : Int32)), (.int p2)])) (by intro t k; exact XS.iconst X0.here hx rfl (hb hby d1_1) k) ?_
  show Run _ _ _ _ _ _ _ s₁ (mkF m 2 #[.val (.ref a0), .val (.int p1), .val (.int p2), .unset, .unset] [(.int (1 : Int32)), (.int p2)])
  refine go (T' := s₁) (f' := (mkF m 3 #[.val (.ref a0), .val (.int p1), .val (.int p2), .unset, .unset] [(.int (p2 + (1 : Int32)))])) (by intro t k; exact XS.iadd X0.here hx rfl (hb hby d1_2) rfl k) ?_
  show Run _ _ _ _ _ _ _ s₁ (mkF m 3 #[.val (.ref a0), .val (.int p1), .val (.int p2), .unset, .unset] [(.int (p2 + (1 : Int32)))])
  obtain ⟨T1, h1, kA1, X1, e1, E1, A1, EX1, st1⟩ := newPE X0 hx hZ (hw _ (List.mem_of_getElem? (i := 1) rfl)) e0 (g := (mkF m 3 #[.val (.ref a0), .val (.int p1), .val (.int p2), .unset, .unset] [(.int (p2 + (1 : Int32)))])) rfl (hb hby d1_3) rfl (own_kc hkc.1 hkc.2).1 (cap := 5) (own_kc hkc.1 hkc.2).2.1 (by decide) (by decide) (by decide) (ad := "[I") (by decide)
  obtain ⟨b1, g1⟩ : ∃ z, z = h0.size := ⟨_, rfl⟩
  rw [← g1] at A1 EX1 st1
  have ne_a0_b1 : a0 ≠ b1 := Nat.ne_of_lt (Nat.lt_of_lt_of_eq A_a0.lt g1.symm)
  have ge_b1 : n0 ≤ b1 := Nat.le_trans Z0 (Nat.le_of_eq g1.symm)
  have sz_b1 : h0.size ≤ b1 := Nat.le_trans (Keep.refl h0 []).1 (Nat.le_of_eq g1.symm)
  have K1 : Keep h0 h1 [] := (Keep.refl _ _).ext E1
  have A1_a0 : Ary Z h1 a0 .int [(.int k0), (.int k1), (.int k2), (.int k3)] := A_a0.keep K1 nin0
  have Z1 : n0 ≤ h1.size := Nat.le_trans Z0 K1.1
  have KK1 : Keep h0 h1 [] := (Keep.refl _ _).trans K1 all0
  have V1 : Ary Z h1 b1 .int (List.replicate ((p2 + (1 : Int32))).toNatClampNeg (.int (0 : Int32))) := Ary.new A1
  refine go st1 ?_
  show Run _ _ _ _ _ _ _ T1 (mkF m 5 #[.val (.ref a0), .val (.int p1), .val (.int p2), .unset, .unset] [(.ref b1)])
  refine go (T' := T1) (f' := (mkF m 6 #[.val (.ref a0), .val (.int p1), .val (.int p2), .val (.ref b1), .unset] [])) (by intro t k; exact XS.astoreN X1.here hx rfl (hb hby d1_5) rfl rfl (l' := #[.val (.ref a0), .val (.int p1), .val (.int p2), .val (.ref b1), .unset]) rfl k) ?_
  show Run _ _ _ _ _ _ _ T1 (mkF m 6 #[.val (.ref a0), .val (.int p1), .val (.int p2), .val (.ref b1), .unset] [])
  refine go (T' := T1) (f' := (mkF m 7 #[.val (.ref a0), .val (.int p1), .val (.int p2), .val (.ref b1), .unset] [(.int (0 : Int32))])) (by intro t k; exact XS.iconst X1.here hx rfl (hb hby d1_6) k) ?_
  show Run _ _ _ _ _ _ _ T1 (mkF m 7 #[.val (.ref a0), .val (.int p1), .val (.int p2), .val (.ref b1), .unset] [(.int (0 : Int32))])
  refine go (T' := T1) (f' := (mkF m 9 #[.val (.ref a0), .val (.int p1), .val (.int p2), .val (.ref b1), .val (.int (0 : Int32))] [])) (by intro t k; exact XS.istore X1.here hx rfl (hb hby d1_7) rfl (l' := #[.val (.ref a0), .val (.int p1), .val (.int p2), .val (.ref b1), .val (.int (0 : Int32))]) rfl k) ?_
  have LOOP9 : ∀ (k : Nat) (i4 : Int32)  (n : Nat) (TL2 : State) (hL2 : Heap) (loL2 : List Loc), Stand p l e ({ frames := 0, cells := 1, slots := 5, locals := 0 } : Room) s m #[(.ref a0), (.int p1), (.int p2)] below meth c TL2 loL2 1 5 → TL2.heap = hL2 → Fr n0 loL2 → n0 ≤ hL2.size → Exa Z hL2 b1 "[I" → Ary Z hL2 a0 .int [(.int k0), (.int k1), (.int k2), (.int k3)] → Ary Z hL2 b1 .int (List.map Value.int (own_l1 [k0, k1, k2, k3] p2 n)) → Keep h0 hL2 [] → i4.toInt = (n : Int) → n ≤ p1.toNatClampNeg → (p1.toInt - i4.toInt).toNat < k → Run p e s below (Q1 Z a0 p1 p2 k0 k1 k2 k3 h0 n0) ({ frames := 0, cells := 1, slots := 5, locals := 0 } : Room).cells ({ frames := 0, cells := 1, slots := 5, locals := 0 } : Room).slots TL2 (mkF m 9 #[.val (.ref a0), .val (.int p1), .val (.int p2), .val (.ref b1), .val (.int i4)] []) := by
    intro k
    induction k with
    | zero => intro i4 n TL2 hL2 loL2 XL2 eL2 NL2 ZL2 EL2_b1 AL2_a0 AL2_b1 KL2 hI0 hI1 hk; exact absurd hk (Nat.not_lt_zero _)
    | succ k ih =>
      intro i4 n TL2 hL2 loL2 XL2 eL2 NL2 ZL2 EL2_b1 AL2_a0 AL2_b1 KL2 hI0 hI1 hk
      show Run _ _ _ _ _ _ _ TL2 (mkF m 9 #[.val (.ref a0), .val (.int p1), .val (.int p2), .val (.ref b1), .val (.int i4)] [])
      refine go (T' := TL2) (f' := (mkF m 11 #[.val (.ref a0), .val (.int p1), .val (.int p2), .val (.ref b1), .val (.int i4)] [(.int i4)])) (by intro t k; exact XS.iload XL2.here hx rfl (hb hby d1_9) rfl k) ?_
      show Run _ _ _ _ _ _ _ TL2 (mkF m 11 #[.val (.ref a0), .val (.int p1), .val (.int p2), .val (.ref b1), .val (.int i4)] [(.int i4)])
      refine go (T' := TL2) (f' := (mkF m 12 #[.val (.ref a0), .val (.int p1), .val (.int p2), .val (.ref b1), .val (.int i4)] [(.int p1), (.int i4)])) (by intro t k; exact XS.iloadN XL2.here hx rfl (hb hby d1_11) rfl k) ?_
      show Run _ _ _ _ _ _ _ TL2 (mkF m 12 #[.val (.ref a0), .val (.int p1), .val (.int p2), .val (.ref b1), .val (.int i4)] [(.int p1), (.int i4)])
      by_cases hc12 : i4 < p1
      · refine go (T' := TL2) (f' := (mkF m 15 #[.val (.ref a0), .val (.int p1), .val (.int p2), .val (.ref b1), .val (.int i4)] [])) (by intro t k; exact XS.icmpNo XL2.here hx rfl (hb hby d1_12) rfl (tlt hc12).2.1 k) ?_
        show Run _ _ _ _ _ _ _ TL2 (mkF m 15 #[.val (.ref a0), .val (.int p1), .val (.int p2), .val (.ref b1), .val (.int i4)] [])
        refine go (T' := TL2) (f' := (mkF m 16 #[.val (.ref a0), .val (.int p1), .val (.int p2), .val (.ref b1), .val (.int i4)] [(.ref b1)])) (by intro t k; exact XS.aloadN XL2.here hx rfl (hb hby d1_15) rfl rfl k) ?_
        show Run _ _ _ _ _ _ _ TL2 (mkF m 16 #[.val (.ref a0), .val (.int p1), .val (.int p2), .val (.ref b1), .val (.int i4)] [(.ref b1)])
        refine go (T' := TL2) (f' := (mkF m 17 #[.val (.ref a0), .val (.int p1), .val (.int p2), .val (.ref b1), .val (.int i4)] [(.ref a0), (.ref b1)])) (by intro t k; exact XS.aloadN XL2.here hx rfl (hb hby d1_16) rfl rfl k) ?_
        show Run _ _ _ _ _ _ _ TL2 (mkF m 17 #[.val (.ref a0), .val (.int p1), .val (.int p2), .val (.ref b1), .val (.int i4)] [(.ref a0), (.ref b1)])
        refine go (T' := TL2) (f' := (mkF m 19 #[.val (.ref a0), .val (.int p1), .val (.int p2), .val (.ref b1), .val (.int i4)] [(.int i4), (.ref a0), (.ref b1)])) (by intro t k; exact XS.iload XL2.here hx rfl (hb hby d1_17) rfl k) ?_
        show Run _ _ _ _ _ _ _ TL2 (mkF m 19 #[.val (.ref a0), .val (.int p1), .val (.int p2), .val (.ref b1), .val (.int i4)] [(.int i4), (.ref a0), (.ref b1)])
        refine go (T' := TL2) (f' := (mkF m 20 #[.val (.ref a0), .val (.int p1), .val (.int p2), .val (.ref b1), .val (.int i4)] [(.int ([k0, k1, k2, k3].getD n 0)), (.ref b1)])) (by intro t k; exact ldI XL2 hx hZ eL2 AL2_a0 (j := i4) (v := (.int ([k0, k1, k2, k3].getD n 0))) (own_ix hI0).1 (by rw [(own_ix hI0).2]; exact getI (xs := [k0, k1, k2, k3]) (by have := own_lt hI0 hc12; rw [own_cl] at this; show n < 4; omega)) (g := (mkF m 19 #[.val (.ref a0), .val (.int p1), .val (.int p2), .val (.ref b1), .val (.int i4)] [(.int i4), (.ref a0), (.ref b1)])) rfl rfl (hb hby d1_19) _ k) ?_
        show Run _ _ _ _ _ _ _ TL2 (mkF m 20 #[.val (.ref a0), .val (.int p1), .val (.int p2), .val (.ref b1), .val (.int i4)] [(.int ([k0, k1, k2, k3].getD n 0)), (.ref b1)])
        refine go (T' := TL2) (f' := (mkF m 21 #[.val (.ref a0), .val (.int p1), .val (.int p2), .val (.ref b1), .val (.int i4)] [(.int (1 : Int32)), (.int ([k0, k1, k2, k3].getD n 0)), (.ref b1)])) (by intro t k; exact XS.iconst XL2.here hx rfl (hb hby d1_20) k) ?_
        show Run _ _ _ _ _ _ _ TL2 (mkF m 21 #[.val (.ref a0), .val (.int p1), .val (.int p2), .val (.ref b1), .val (.int i4)] [(.int (1 : Int32)), (.int ([k0, k1, k2, k3].getD n 0)), (.ref b1)])
        refine go (T' := TL2) (f' := (mkF m 22 #[.val (.ref a0), .val (.int p1), .val (.int p2), .val (.ref b1), .val (.int i4)] [(.int (([k0, k1, k2, k3].getD n 0) + (1 : Int32))), (.ref b1)])) (by intro t k; exact XS.iadd XL2.here hx rfl (hb hby d1_21) rfl k) ?_
        show Run _ _ _ _ _ _ _ TL2 (mkF m 22 #[.val (.ref a0), .val (.int p1), .val (.int p2), .val (.ref b1), .val (.int i4)] [(.int (([k0, k1, k2, k3].getD n 0) + (1 : Int32))), (.ref b1)])
        refine go (T' := TL2) (f' := (mkF m 23 #[.val (.ref a0), .val (.int p1), .val (.int p2), .val (.ref b1), .val (.int i4)] [(.int (([k0, k1, k2, k3].getD n 0) + (1 : Int32))), (.ref b1), (.int (([k0, k1, k2, k3].getD n 0) + (1 : Int32))), (.ref b1)])) (by intro t k; exact XT.dup2 XL2.here hx rfl (hb hby d1_22) rfl rfl rfl k) ?_
        show Run _ _ _ _ _ _ _ TL2 (mkF m 23 #[.val (.ref a0), .val (.int p1), .val (.int p2), .val (.ref b1), .val (.int i4)] [(.int (([k0, k1, k2, k3].getD n 0) + (1 : Int32))), (.ref b1), (.int (([k0, k1, k2, k3].getD n 0) + (1 : Int32))), (.ref b1)])
        refine go (T' := TL2) (f' := (mkF m 24 #[.val (.ref a0), .val (.int p1), .val (.int p2), .val (.ref b1), .val (.int i4)] [(.int ((own_l1 [k0, k1, k2, k3] p2 n).getD ((([k0, k1, k2, k3].getD n 0) + (1 : Int32))).toNatClampNeg 0)), (.int (([k0, k1, k2, k3].getD n 0) + (1 : Int32))), (.ref b1)])) (by intro t k; exact ldI XL2 hx hZ eL2 AL2_b1 (j := (([k0, k1, k2, k3].getD n 0) + (1 : Int32))) (v := (.int ((own_l1 [k0, k1, k2, k3] p2 n).getD ((([k0, k1, k2, k3].getD n 0) + (1 : Int32))).toNatClampNeg 0))) (own_j (hks n (own_lt hI0 hc12)).1 (hks n (own_lt hI0 hc12)).2 hkc.2).1 (getI (by rw [own_len1]; exact (own_j (hks n (own_lt hI0 hc12)).1 (hks n (own_lt hI0 hc12)).2 hkc.2).2.1)) (g := (mkF m 23 #[.val (.ref a0), .val (.int p1), .val (.int p2), .val (.ref b1), .val (.int i4)] [(.int (([k0, k1, k2, k3].getD n 0) + (1 : Int32))), (.ref b1), (.int (([k0, k1, k2, k3].getD n 0) + (1 : Int32))), (.ref b1)])) rfl rfl (hb hby d1_23) _ k) ?_
        show Run _ _ _ _ _ _ _ TL2 (mkF m 24 #[.val (.ref a0), .val (.int p1), .val (.int p2), .val (.ref b1), .val (.int i4)] [(.int ((own_l1 [k0, k1, k2, k3] p2 n).getD ((([k0, k1, k2, k3].getD n 0) + (1 : Int32))).toNatClampNeg 0)), (.int (([k0, k1, k2, k3].getD n 0) + (1 : Int32))), (.ref b1)])
        refine go (T' := TL2) (f' := (mkF m 25 #[.val (.ref a0), .val (.int p1), .val (.int p2), .val (.ref b1), .val (.int i4)] [(.int (1 : Int32)), (.int ((own_l1 [k0, k1, k2, k3] p2 n).getD ((([k0, k1, k2, k3].getD n 0) + (1 : Int32))).toNatClampNeg 0)), (.int (([k0, k1, k2, k3].getD n 0) + (1 : Int32))), (.ref b1)])) (by intro t k; exact XS.iconst XL2.here hx rfl (hb hby d1_24) k) ?_
        show Run _ _ _ _ _ _ _ TL2 (mkF m 25 #[.val (.ref a0), .val (.int p1), .val (.int p2), .val (.ref b1), .val (.int i4)] [(.int (1 : Int32)), (.int ((own_l1 [k0, k1, k2, k3] p2 n).getD ((([k0, k1, k2, k3].getD n 0) + (1 : Int32))).toNatClampNeg 0)), (.int (([k0, k1, k2, k3].getD n 0) + (1 : Int32))), (.ref b1)])
        refine go (T' := TL2) (f' := (mkF m 26 #[.val (.ref a0), .val (.int p1), .val (.int p2), .val (.ref b1), .val (.int i4)] [(.int (((own_l1 [k0, k1, k2, k3] p2 n).getD ((([k0, k1, k2, k3].getD n 0) + (1 : Int32))).toNatClampNeg 0) + (1 : Int32))), (.int (([k0, k1, k2, k3].getD n 0) + (1 : Int32))), (.ref b1)])) (by intro t k; exact XS.iadd XL2.here hx rfl (hb hby d1_25) rfl k) ?_
        show Run _ _ _ _ _ _ _ TL2 (mkF m 26 #[.val (.ref a0), .val (.int p1), .val (.int p2), .val (.ref b1), .val (.int i4)] [(.int (((own_l1 [k0, k1, k2, k3] p2 n).getD ((([k0, k1, k2, k3].getD n 0) + (1 : Int32))).toNatClampNeg 0) + (1 : Int32))), (.int (([k0, k1, k2, k3].getD n 0) + (1 : Int32))), (.ref b1)])
        obtain ⟨cl3, Ar3, hin3⟩ := Ary.st (j := (([k0, k1, k2, k3].getD n 0) + (1 : Int32))) AL2_b1 (own_j (hks n (own_lt hI0 hc12)).1 (hks n (own_lt hI0 hc12)).2 hkc.2).1 (by rw [List.length_map, own_len1]; exact (own_j (hks n (own_lt hI0 hc12)).1 (hks n (own_lt hI0 hc12)).2 hkc.2).2.1)
        obtain ⟨T3, h3, X3, e3, W3, st3⟩ := stI XL2 hx hZ eL2 Ar3 (j := (([k0, k1, k2, k3].getD n 0) + (1 : Int32))) hin3 (g := (mkF m 26 #[.val (.ref a0), .val (.int p1), .val (.int p2), .val (.ref b1), .val (.int i4)] [(.int (((own_l1 [k0, k1, k2, k3] p2 n).getD ((([k0, k1, k2, k3].getD n 0) + (1 : Int32))).toNatClampNeg 0) + (1 : Int32))), (.int (([k0, k1, k2, k3].getD n 0) + (1 : Int32))), (.ref b1)])) rfl rfl (hb hby d1_26)
        have K3 : Keep hL2 h3 [b1] := Keep.of_wr W3
        have V3 : Ary Z h3 b1 .int (List.set (List.map Value.int (own_l1 [k0, k1, k2, k3] p2 n)) ((([k0, k1, k2, k3].getD n 0) + (1 : Int32))).toNatClampNeg (.int (((own_l1 [k0, k1, k2, k3] p2 n).getD ((([k0, k1, k2, k3].getD n 0) + (1 : Int32))).toNatClampNeg 0) + (1 : Int32)))) := Ary.set AL2_b1 W3 rfl
        have N3 := Fr.snoc X3 NL2 ge_b1
        have E3_b1 : Exa Z h3 b1 "[I" := EL2_b1.keep K3
        have A3_a0 : Ary Z h3 a0 .int [(.int k0), (.int k1), (.int k2), (.int k3)] := AL2_a0.keep K3 (ninS ne_a0_b1 nin0)
        have Z3 : n0 ≤ h3.size := Nat.le_trans ZL2 K3.1
        have KK3 : Keep h0 h3 [] := KL2.trans K3 (allS (Or.inr sz_b1) all0)
        refine go st3 ?_
        show Run _ _ _ _ _ _ _ T3 (mkF m 27 #[.val (.ref a0), .val (.int p1), .val (.int p2), .val (.ref b1), .val (.int i4)] [])
        refine go (T' := T3) (f' := (mkF m 30 #[.val (.ref a0), .val (.int p1), .val (.int p2), .val (.ref b1), .val (.int (i4 + (1 : Int32)))] [])) (by intro t k; exact XS.iinc X3.here hx rfl (hb hby d1_27) rfl (l' := #[.val (.ref a0), .val (.int p1), .val (.int p2), .val (.ref b1), .val (.int (i4 + (1 : Int32)))]) rfl k) ?_
        show Run _ _ _ _ _ _ _ T3 (mkF m 30 #[.val (.ref a0), .val (.int p1), .val (.int p2), .val (.ref b1), .val (.int (i4 + (1 : Int32)))] [])
        refine go (T' := T3) (f' := (mkF m 9 #[.val (.ref a0), .val (.int p1), .val (.int p2), .val (.ref b1), .val (.int (i4 + (1 : Int32)))] [])) (by intro t k; exact XS.goto X3.here hx rfl (pc0 := 30) (pc' := 9) rfl (hb hby d1_30) (by decide) (by decide) k) ?_
        have V1 : Ary Z h3 b1 .int (List.map Value.int (own_l1 [k0, k1, k2, k3] p2 (n + 1))) := by
          rw [own_l1, ← setI]
          exact V3
        show Run _ _ _ _ _ _ _ T3 (mkF m 9 #[.val (.ref a0), .val (.int p1), .val (.int p2), .val (.ref b1), .val (.int (i4 + (1 : Int32)))] [])
        exact ih (i4 + (1 : Int32)) (n + 1) T3 h3 _ X3 e3 N3 Z3 E3_b1 A3_a0 V1 KK3 (own_inc hI0 hc12) (own_lt hI0 hc12) (own_fall hI0 hc12 hk)
      · refine go (T' := TL2) (f' := (mkF m 33 #[.val (.ref a0), .val (.int p1), .val (.int p2), .val (.ref b1), .val (.int i4)] [])) (by intro t k; exact XS.icmpYes XL2.here hx rfl (pc0 := 12) (pc' := 33) rfl (hb hby d1_12) rfl (flt hc12).2.1 (by decide) (by decide) k) ?_
        show Run _ _ _ _ _ _ _ TL2 (mkF m 33 #[.val (.ref a0), .val (.int p1), .val (.int p2), .val (.ref b1), .val (.int i4)] [])
        refine go (T' := TL2) (f' := (mkF m 34 #[.val (.ref a0), .val (.int p1), .val (.int p2), .val (.ref b1), .val (.int i4)] [(.int (0 : Int32))])) (by intro t k; exact XS.iconst XL2.here hx rfl (hb hby d1_33) k) ?_
        show Run _ _ _ _ _ _ _ TL2 (mkF m 34 #[.val (.ref a0), .val (.int p1), .val (.int p2), .val (.ref b1), .val (.int i4)] [(.int (0 : Int32))])
        refine go (T' := TL2) (f' := (mkF m 36 #[.val (.ref a0), .val (.int p1), .val (.int p2), .val (.ref b1), .val (.int (0 : Int32))] [])) (by intro t k; exact XS.istore XL2.here hx rfl (hb hby d1_34) rfl (l' := #[.val (.ref a0), .val (.int p1), .val (.int p2), .val (.ref b1), .val (.int (0 : Int32))]) rfl k) ?_
        have LOOP36 : ∀ (k : Nat) (i4 : Int32)  (n2 : Nat) (TL4 : State) (hL4 : Heap) (loL4 : List Loc), Stand p l e ({ frames := 0, cells := 1, slots := 5, locals := 0 } : Room) s m #[(.ref a0), (.int p1), (.int p2)] below meth c TL4 loL4 1 5 → TL4.heap = hL4 → Fr n0 loL4 → n0 ≤ hL4.size → Exa Z hL4 b1 "[I" → Ary Z hL4 a0 .int [(.int k0), (.int k1), (.int k2), (.int k3)] → Ary Z hL4 b1 .int (List.map Value.int (own_l2 (own_l1 [k0, k1, k2, k3] p2 p1.toNatClampNeg) n2)) → Keep h0 hL4 [] → i4.toInt = (n2 : Int) → n2 ≤ p2.toNatClampNeg → (p2.toInt - i4.toInt).toNat < k → Run p e s below (Q1 Z a0 p1 p2 k0 k1 k2 k3 h0 n0) ({ frames := 0, cells := 1, slots := 5, locals := 0 } : Room).cells ({ frames := 0, cells := 1, slots := 5, locals := 0 } : Room).slots TL4 (mkF m 36 #[.val (.ref a0), .val (.int p1), .val (.int p2), .val (.ref b1), .val (.int i4)] []) := by
          intro k
          induction k with
          | zero => intro i4 n2 TL4 hL4 loL4 XL4 eL4 NL4 ZL4 EL4_b1 AL4_a0 AL4_b1 KL4 hI0 hI1 hk; exact absurd hk (Nat.not_lt_zero _)
          | succ k ih =>
            intro i4 n2 TL4 hL4 loL4 XL4 eL4 NL4 ZL4 EL4_b1 AL4_a0 AL4_b1 KL4 hI0 hI1 hk
            show Run _ _ _ _ _ _ _ TL4 (mkF m 36 #[.val (.ref a0), .val (.int p1), .val (.int p2), .val (.ref b1), .val (.int i4)] [])
            refine go (T' := TL4) (f' := (mkF m 38 #[.val (.ref a0), .val (.int p1), .val (.int p2), .val (.ref b1), .val (.int i4)] [(.int i4)])) (by intro t k; exact XS.iload XL4.here hx rfl (hb hby d1_36) rfl k) ?_
            show Run _ _ _ _ _ _ _ TL4 (mkF m 38 #[.val (.ref a0), .val (.int p1), .val (.int p2), .val (.ref b1), .val (.int i4)] [(.int i4)])
            refine go (T' := TL4) (f' := (mkF m 39 #[.val (.ref a0), .val (.int p1), .val (.int p2), .val (.ref b1), .val (.int i4)] [(.int p2), (.int i4)])) (by intro t k; exact XS.iloadN XL4.here hx rfl (hb hby d1_38) rfl k) ?_
            show Run _ _ _ _ _ _ _ TL4 (mkF m 39 #[.val (.ref a0), .val (.int p1), .val (.int p2), .val (.ref b1), .val (.int i4)] [(.int p2), (.int i4)])
            by_cases hc39 : i4 < p2
            · refine go (T' := TL4) (f' := (mkF m 42 #[.val (.ref a0), .val (.int p1), .val (.int p2), .val (.ref b1), .val (.int i4)] [])) (by intro t k; exact XS.icmpNo XL4.here hx rfl (hb hby d1_39) rfl (tlt hc39).2.1 k) ?_
              show Run _ _ _ _ _ _ _ TL4 (mkF m 42 #[.val (.ref a0), .val (.int p1), .val (.int p2), .val (.ref b1), .val (.int i4)] [])
              refine go (T' := TL4) (f' := (mkF m 43 #[.val (.ref a0), .val (.int p1), .val (.int p2), .val (.ref b1), .val (.int i4)] [(.ref b1)])) (by intro t k; exact XS.aloadN XL4.here hx rfl (hb hby d1_42) rfl rfl k) ?_
              show Run _ _ _ _ _ _ _ TL4 (mkF m 43 #[.val (.ref a0), .val (.int p1), .val (.int p2), .val (.ref b1), .val (.int i4)] [(.ref b1)])
              refine go (T' := TL4) (f' := (mkF m 45 #[.val (.ref a0), .val (.int p1), .val (.int p2), .val (.ref b1), .val (.int i4)] [(.int i4), (.ref b1)])) (by intro t k; exact XS.iload XL4.here hx rfl (hb hby d1_43) rfl k) ?_
              show Run _ _ _ _ _ _ _ TL4 (mkF m 45 #[.val (.ref a0), .val (.int p1), .val (.int p2), .val (.ref b1), .val (.int i4)] [(.int i4), (.ref b1)])
              refine go (T' := TL4) (f' := (mkF m 46 #[.val (.ref a0), .val (.int p1), .val (.int p2), .val (.ref b1), .val (.int i4)] [(.int (1 : Int32)), (.int i4), (.ref b1)])) (by intro t k; exact XS.iconst XL4.here hx rfl (hb hby d1_45) k) ?_
              show Run _ _ _ _ _ _ _ TL4 (mkF m 46 #[.val (.ref a0), .val (.int p1), .val (.int p2), .val (.ref b1), .val (.int i4)] [(.int (1 : Int32)), (.int i4), (.ref b1)])
              refine go (T' := TL4) (f' := (mkF m 47 #[.val (.ref a0), .val (.int p1), .val (.int p2), .val (.ref b1), .val (.int i4)] [(.int (i4 + (1 : Int32))), (.ref b1)])) (by intro t k; exact XS.iadd XL4.here hx rfl (hb hby d1_46) rfl k) ?_
              show Run _ _ _ _ _ _ _ TL4 (mkF m 47 #[.val (.ref a0), .val (.int p1), .val (.int p2), .val (.ref b1), .val (.int i4)] [(.int (i4 + (1 : Int32))), (.ref b1)])
              refine go (T' := TL4) (f' := (mkF m 48 #[.val (.ref a0), .val (.int p1), .val (.int p2), .val (.ref b1), .val (.int i4)] [(.int (i4 + (1 : Int32))), (.ref b1), (.int (i4 + (1 : Int32))), (.ref b1)])) (by intro t k; exact XT.dup2 XL4.here hx rfl (hb hby d1_47) rfl rfl rfl k) ?_
              show Run _ _ _ _ _ _ _ TL4 (mkF m 48 #[.val (.ref a0), .val (.int p1), .val (.int p2), .val (.ref b1), .val (.int i4)] [(.int (i4 + (1 : Int32))), (.ref b1), (.int (i4 + (1 : Int32))), (.ref b1)])
              refine go (T' := TL4) (f' := (mkF m 49 #[.val (.ref a0), .val (.int p1), .val (.int p2), .val (.ref b1), .val (.int i4)] [(.int ((own_l2 (own_l1 [k0, k1, k2, k3] p2 p1.toNatClampNeg) n2).getD (n2 + 1) 0)), (.int (i4 + (1 : Int32))), (.ref b1)])) (by intro t k; exact ldI XL4 hx hZ eL4 AL4_b1 (j := (i4 + (1 : Int32))) (v := (.int ((own_l2 (own_l1 [k0, k1, k2, k3] p2 p1.toNatClampNeg) n2).getD (n2 + 1) 0))) (own_ix (own_inc hI0 hc39)).1 (by rw [(own_ix (own_inc hI0 hc39)).2]; exact getI (by rw [own_len2, own_len1, (own_kc hkc.1 hkc.2).2.2]; have := own_lt hI0 hc39; omega)) (g := (mkF m 48 #[.val (.ref a0), .val (.int p1), .val (.int p2), .val (.ref b1), .val (.int i4)] [(.int (i4 + (1 : Int32))), (.ref b1), (.int (i4 + (1 : Int32))), (.ref b1)])) rfl rfl (hb hby d1_48) _ k) ?_
              show Run _ _ _ _ _ _ _ TL4 (mkF m 49 #[.val (.ref a0), .val (.int p1), .val (.int p2), .val (.ref b1), .val (.int i4)] [(.int ((own_l2 (own_l1 [k0, k1, k2, k3] p2 p1.toNatClampNeg) n2).getD (n2 + 1) 0)), (.int (i4 + (1 : Int32))), (.ref b1)])
              refine go (T' := TL4) (f' := (mkF m 50 #[.val (.ref a0), .val (.int p1), .val (.int p2), .val (.ref b1), .val (.int i4)] [(.ref b1), (.int ((own_l2 (own_l1 [k0, k1, k2, k3] p2 p1.toNatClampNeg) n2).getD (n2 + 1) 0)), (.int (i4 + (1 : Int32))), (.ref b1)])) (by intro t k; exact XS.aloadN XL4.here hx rfl (hb hby d1_49) rfl rfl k) ?_
              show Run _ _ _ _ _ _ _ TL4 (mkF m 50 #[.val (.ref a0), .val (.int p1), .val (.int p2), .val (.ref b1), .val (.int i4)] [(.ref b1), (.int ((own_l2 (own_l1 [k0, k1, k2, k3] p2 p1.toNatClampNeg) n2).getD (n2 + 1) 0)), (.int (i4 + (1 : Int32))), (.ref b1)])
              refine go (T' := TL4) (f' := (mkF m 52 #[.val (.ref a0), .val (.int p1), .val (.int p2), .val (.ref b1), .val (.int i4)] [(.int i4), (.ref b1), (.int ((own_l2 (own_l1 [k0, k1, k2, k3] p2 p1.toNatClampNeg) n2).getD (n2 + 1) 0)), (.int (i4 + (1 : Int32))), (.ref b1)])) (by intro t k; exact XS.iload XL4.here hx rfl (hb hby d1_50) rfl k) ?_
              show Run _ _ _ _ _ _ _ TL4 (mkF m 52 #[.val (.ref a0), .val (.int p1), .val (.int p2), .val (.ref b1), .val (.int i4)] [(.int i4), (.ref b1), (.int ((own_l2 (own_l1 [k0, k1, k2, k3] p2 p1.toNatClampNeg) n2).getD (n2 + 1) 0)), (.int (i4 + (1 : Int32))), (.ref b1)])
              refine go (T' := TL4) (f' := (mkF m 53 #[.val (.ref a0), .val (.int p1), .val (.int p2), .val (.ref b1), .val (.int i4)] [(.int ((own_l2 (own_l1 [k0, k1, k2, k3] p2 p1.toNatClampNeg) n2).getD n2 0)), (.int ((own_l2 (own_l1 [k0, k1, k2, k3] p2 p1.toNatClampNeg) n2).getD (n2 + 1) 0)), (.int (i4 + (1 : Int32))), (.ref b1)])) (by intro t k; exact ldI XL4 hx hZ eL4 AL4_b1 (j := i4) (v := (.int ((own_l2 (own_l1 [k0, k1, k2, k3] p2 p1.toNatClampNeg) n2).getD n2 0))) (own_ix hI0).1 (by rw [(own_ix hI0).2]; exact getI (by rw [own_len2, own_len1, (own_kc hkc.1 hkc.2).2.2]; have := own_lt hI0 hc39; omega)) (g := (mkF m 52 #[.val (.ref a0), .val (.int p1), .val (.int p2), .val (.ref b1), .val (.int i4)] [(.int i4), (.ref b1), (.int ((own_l2 (own_l1 [k0, k1, k2, k3] p2 p1.toNatClampNeg) n2).getD (n2 + 1) 0)), (.int (i4 + (1 : Int32))), (.ref b1)])) rfl rfl (hb hby d1_52) _ k) ?_
              show Run _ _ _ _ _ _ _ TL4 (mkF m 53 #[.val (.ref a0), .val (.int p1), .val (.int p2), .val (.ref b1), .val (.int i4)] [(.int ((own_l2 (own_l1 [k0, k1, k2, k3] p2 p1.toNatClampNeg) n2).getD n2 0)), (.int ((own_l2 (own_l1 [k0, k1, k2, k3] p2 p1.toNatClampNeg) n2).getD (n2 + 1) 0)), (.int (i4 + (1 : Int32))), (.ref b1)])
              refine go (T' := TL4) (f' := (mkF m 54 #[.val (.ref a0), .val (.int p1), .val (.int p2), .val (.ref b1), .val (.int i4)] [(.int (((own_l2 (own_l1 [k0, k1, k2, k3] p2 p1.toNatClampNeg) n2).getD (n2 + 1) 0) + ((own_l2 (own_l1 [k0, k1, k2, k3] p2 p1.toNatClampNeg) n2).getD n2 0))), (.int (i4 + (1 : Int32))), (.ref b1)])) (by intro t k; exact XS.iadd XL4.here hx rfl (hb hby d1_53) rfl k) ?_
              show Run _ _ _ _ _ _ _ TL4 (mkF m 54 #[.val (.ref a0), .val (.int p1), .val (.int p2), .val (.ref b1), .val (.int i4)] [(.int (((own_l2 (own_l1 [k0, k1, k2, k3] p2 p1.toNatClampNeg) n2).getD (n2 + 1) 0) + ((own_l2 (own_l1 [k0, k1, k2, k3] p2 p1.toNatClampNeg) n2).getD n2 0))), (.int (i4 + (1 : Int32))), (.ref b1)])
              obtain ⟨cl5, Ar5, hin5⟩ := Ary.st (j := (i4 + (1 : Int32))) AL4_b1 (own_ix (own_inc hI0 hc39)).1 (by rw [List.length_map, (own_ix (own_inc hI0 hc39)).2]; exact (by rw [own_len2, own_len1, (own_kc hkc.1 hkc.2).2.2]; have := own_lt hI0 hc39; omega))
              obtain ⟨T5, h5, X5, e5, W5, st5⟩ := stI XL4 hx hZ eL4 Ar5 (j := (i4 + (1 : Int32))) hin5 (g := (mkF m 54 #[.val (.ref a0), .val (.int p1), .val (.int p2), .val (.ref b1), .val (.int i4)] [(.int (((own_l2 (own_l1 [k0, k1, k2, k3] p2 p1.toNatClampNeg) n2).getD (n2 + 1) 0) + ((own_l2 (own_l1 [k0, k1, k2, k3] p2 p1.toNatClampNeg) n2).getD n2 0))), (.int (i4 + (1 : Int32))), (.ref b1)])) rfl rfl (hb hby d1_54)
              have K5 : Keep hL4 h5 [b1] := Keep.of_wr W5
              have V5 : Ary Z h5 b1 .int (List.set (List.map Value.int (own_l2 (own_l1 [k0, k1, k2, k3] p2 p1.toNatClampNeg) n2)) ((i4 + (1 : Int32))).toNatClampNeg (.int (((own_l2 (own_l1 [k0, k1, k2, k3] p2 p1.toNatClampNeg) n2).getD (n2 + 1) 0) + ((own_l2 (own_l1 [k0, k1, k2, k3] p2 p1.toNatClampNeg) n2).getD n2 0)))) := Ary.set AL4_b1 W5 rfl
              have N5 := Fr.snoc X5 NL4 ge_b1
              have E5_b1 : Exa Z h5 b1 "[I" := EL4_b1.keep K5
              have A5_a0 : Ary Z h5 a0 .int [(.int k0), (.int k1), (.int k2), (.int k3)] := AL4_a0.keep K5 (ninS ne_a0_b1 nin0)
              have Z5 : n0 ≤ h5.size := Nat.le_trans ZL4 K5.1
              have KK5 : Keep h0 h5 [] := KL4.trans K5 (allS (Or.inr sz_b1) all0)
              refine go st5 ?_
              show Run _ _ _ _ _ _ _ T5 (mkF m 55 #[.val (.ref a0), .val (.int p1), .val (.int p2), .val (.ref b1), .val (.int i4)] [])
              refine go (T' := T5) (f' := (mkF m 58 #[.val (.ref a0), .val (.int p1), .val (.int p2), .val (.ref b1), .val (.int (i4 + (1 : Int32)))] [])) (by intro t k; exact XS.iinc X5.here hx rfl (hb hby d1_55) rfl (l' := #[.val (.ref a0), .val (.int p1), .val (.int p2), .val (.ref b1), .val (.int (i4 + (1 : Int32)))]) rfl k) ?_
              show Run _ _ _ _ _ _ _ T5 (mkF m 58 #[.val (.ref a0), .val (.int p1), .val (.int p2), .val (.ref b1), .val (.int (i4 + (1 : Int32)))] [])
              refine go (T' := T5) (f' := (mkF m 36 #[.val (.ref a0), .val (.int p1), .val (.int p2), .val (.ref b1), .val (.int (i4 + (1 : Int32)))] [])) (by intro t k; exact XS.goto X5.here hx rfl (pc0 := 58) (pc' := 36) rfl (hb hby d1_58) (by decide) (by decide) k) ?_
              have V3 : Ary Z h5 b1 .int (List.map Value.int (own_l2 (own_l1 [k0, k1, k2, k3] p2 p1.toNatClampNeg) (n2 + 1))) := by
                rw [own_l2, ← setI]
                have e := (own_ix (own_inc hI0 hc39)).2
                have h3 := V5
                rw [e] at h3
                exact h3
              show Run _ _ _ _ _ _ _ T5 (mkF m 36 #[.val (.ref a0), .val (.int p1), .val (.int p2), .val (.ref b1), .val (.int (i4 + (1 : Int32)))] [])
              exact ih (i4 + (1 : Int32)) (n2 + 1) T5 h5 _ X5 e5 N5 Z5 E5_b1 A5_a0 V3 KK5 (own_inc hI0 hc39) (own_lt hI0 hc39) (own_fall hI0 hc39 hk)
            · refine go (T' := TL4) (f' := (mkF m 61 #[.val (.ref a0), .val (.int p1), .val (.int p2), .val (.ref b1), .val (.int i4)] [])) (by intro t k; exact XS.icmpYes XL4.here hx rfl (pc0 := 39) (pc' := 61) rfl (hb hby d1_39) rfl (flt hc39).2.1 (by decide) (by decide) k) ?_
              show Run _ _ _ _ _ _ _ TL4 (mkF m 61 #[.val (.ref a0), .val (.int p1), .val (.int p2), .val (.ref b1), .val (.int i4)] [])
              refine go (T' := TL4) (f' := (mkF m 62 #[.val (.ref a0), .val (.int p1), .val (.int p2), .val (.ref b1), .val (.int i4)] [(.ref b1)])) (by intro t k; exact XS.aloadN XL4.here hx rfl (hb hby d1_61) rfl rfl k) ?_
              show Run _ _ _ _ _ _ _ TL4 (mkF m 62 #[.val (.ref a0), .val (.int p1), .val (.int p2), .val (.ref b1), .val (.int i4)] [(.ref b1)])
              refine retW XL4 hx (t := (.array .int)) Bd.returns rfl (Or.inr (Or.inr (Or.inr (Or.inr ⟨rfl, rfl, rfl⟩)))) (hb hby d1_62) hlk (by decide) (by decide) ?_
              show Q1 Z a0 p1 p2 k0 k1 k2 k3 h0 n0 _ TL4.heap _
              rw [eL4]
              have hv : h0.size ≤ b1 := by
                exact sz_b1
              exact ⟨_, rfl, hv, NL4, KL4, (by unfold own_st; rw [← own_at hI0 hI1 hc39]; exact AL4_b1)⟩
        have V2 : Ary Z hL2 b1 .int (List.map Value.int (own_l2 (own_l1 [k0, k1, k2, k3] p2 p1.toNatClampNeg) 0)) := by
          rw [own_l2, ← own_at hI0 hI1 hc12]
          exact AL2_b1
        exact LOOP36 _ (0 : Int32) 0 TL2 hL2 _ XL2 eL2 NL2 ZL2 EL2_b1 AL2_a0 V2 KL2 (rfl) (Nat.zero_le _) (Nat.lt_succ_self _)
  have V0 : Ary Z h1 b1 .int (List.map Value.int (own_l1 [k0, k1, k2, k3] p2 0)) := by
    rw [own_l1, List.map_replicate]
    exact V1
  exact LOOP9 _ (0 : Int32) 0 T1 h1 _ X1 e1 N0 Z1 EX1 A1_a0 V0 KK1 (rfl) (Nat.zero_le _) (Nat.lt_succ_self _)
theorem pd_285bIII295bI : parseMethodDescriptor "([III)[I" = some ⟨[(.array .int), .int, .int], some (.array .int)⟩ := by decide +kernel
theorem pd_285bI5bIIII29Z : parseMethodDescriptor "([I[IIII)Z" = some ⟨[(.array .int), (.array .int), .int, .int, .int], some .boolean⟩ := by decide +kernel
theorem ef_0 (m : MethodId) (x0 : Int32) (x1 : Int32) (x2 : Int32) (x3 : Int32) (x4 : Int32) (x5 : Int32) : entryFrame m #[(.int x0), (.int x1), (.int x2), (.int x3), (.int x4), (.int x5)] maxLocals = mkF m 0 #[.val (.int x0), .val (.int x1), .val (.int x2), .val (.int x3), .val (.int x4), .val (.int x5), .unset, .unset, .unset, .unset] [] := by first | (simp [entryFrame, mkF, argsToLocals, Value.category, maxLocals]; done) | rfl
def Q0 (Z : State) (p0 : Int32) (p1 : Int32) (p2 : Int32) (p3 : Int32) (p4 : Int32) (p5 : Int32) (h0 : Heap) (n0 : Nat) (v : Option Value) (h : Heap) (L : List Loc) : Prop := v = some (.int (1 : Int32)) ∧ Fr n0 L
set_option maxRecDepth 65536 in
set_option maxHeartbeats 40000000 in
theorem rm0 (l : Launch) (Z : State) (aw : Array Value) (hw : ∀ d ∈ tables_1, d.before aw Z = true) (ws : List Jvm.Cond) (p0 : Int32) (p1 : Int32) (p2 : Int32) (p3 : Int32) (p4 : Int32) (p5 : Int32) (h0 : Heap) (n0 : Nat) (Z0 : n0 ≤ h0.size) :
    MetFree l x (head1 (Jvm.Cond.code x code maxLocals ret :: ws) room_1) (fun a U => a = #[(.int p0), (.int p1), (.int p2), (.int p3), (.int p4), (.int p5)] ∧ Z.Warmed39 U.vm ∧ U.heap = h0) (fun _ _ _ _ _ => True) (fun _ U o U' => ∃ v L, o = .returned v ∧ Q0 Z p0 p1 p2 p3 p4 p5 h0 n0 v U'.heap L ∧ FrameEnd U o U' L room_1.cells room_1.slots) := by
  refine MetFree.of_bodySF (plainFor_of_name pn_3) hisR ?_
  intro p e s m args below meth c s₁ Bd hml0 hP hK
  obtain ⟨rfl, hZ, hh⟩ := hP
  have hx := Bd.exec
  have hby := Bd.bytes
  have hml : c.maxLocals = 10 := hml0
  have hown : s.vm.findClass "com/example/settle/settle/model/IntArraysStartsPinLaw" = some m.cls := findClass_of_methodNamed Bd.named
  have hnm := (name_of_methodNamed Bd.named Bd.method).1
  have hlk : meth.locks = false := BodyLoose.notSynchronized Bd
  have X0 : Stand p l e room_1 s m #[(.int p0), (.int p1), (.int p2), (.int p3), (.int p4), (.int p5)] below meth c s₁ [] 0 0 := Stand.of_body Bd
  have e0 : s₁.heap = h0 := by rw [← hh, Bd.state]; rfl
  have N0 := Fr.nil n0
  show Run p e s below (Q0 Z p0 p1 p2 p3 p4 p5 h0 n0) room_1.cells room_1.slots s₁ (entryFrame m #[(.int p0), (.int p1), (.int p2), (.int p3), (.int p4), (.int p5)] maxLocals)
  rw [ef_0]
  show Run _ _ _ _ _ _ _ s₁ (mkF m 0 #[.val (.int p0), .val (.int p1), .val (.int p2), .val (.int p3), .val (.int p4), .val (.int p5), .unset, .unset, .unset, .unset] [])
  refine go (T' := s₁) (f' := (mkF m 1 #[.val (.int p0), .val (.int p1), .val (.int p2), .val (.int p3), .val (.int p4), .val (.int p5), .unset, .unset, .unset, .unset] [(.int p0)])) (by intro t k; exact XS.iloadN X0.here hx rfl (hb hby at_0) rfl k) ?_
  show Run _ _ _ _ _ _ _ s₁ (mkF m 1 #[.val (.int p0), .val (.int p1), .val (.int p2), .val (.int p3), .val (.int p4), .val (.int p5), .unset, .unset, .unset, .unset] [(.int p0)])
  refine go (T' := s₁) (f' := (mkF m 3 #[.val (.int p0), .val (.int p1), .val (.int p2), .val (.int p3), .val (.int p4), .val (.int p5), .unset, .unset, .unset, .unset] [(.int (2147483647 : Int32)), (.int p0)])) (by intro t k; exact X0.ldcInt hx hown (mvT hZ (hw _ (List.mem_of_getElem? (i := 0) rfl))) (g := (mkF m 1 #[.val (.int p0), .val (.int p1), .val (.int p2), .val (.int p3), .val (.int p4), .val (.int p5), .unset, .unset, .unset, .unset] [(.int p0)])) rfl (hb hby at_1) _ k) ?_
  show Run _ _ _ _ _ _ _ s₁ (mkF m 3 #[.val (.int p0), .val (.int p1), .val (.int p2), .val (.int p3), .val (.int p4), .val (.int p5), .unset, .unset, .unset, .unset] [(.int (2147483647 : Int32)), (.int p0)])
  refine go (T' := s₁) (f' := (mkF m 4 #[.val (.int p0), .val (.int p1), .val (.int p2), .val (.int p3), .val (.int p4), .val (.int p5), .unset, .unset, .unset, .unset] [(.int (p0 &&& (2147483647 : Int32)))])) (by intro t k; exact XS.iand X0.here hx rfl (hb hby at_3) rfl k) ?_
  show Run _ _ _ _ _ _ _ s₁ (mkF m 4 #[.val (.int p0), .val (.int p1), .val (.int p2), .val (.int p3), .val (.int p4), .val (.int p5), .unset, .unset, .unset, .unset] [(.int (p0 &&& (2147483647 : Int32)))])
  refine go (T' := s₁) (f' := (mkF m 5 #[.val (.int p0), .val (.int p1), .val (.int p2), .val (.int p3), .val (.int p4), .val (.int p5), .unset, .unset, .unset, .unset] [(.int (5 : Int32)), (.int (p0 &&& (2147483647 : Int32)))])) (by intro t k; exact XS.iconst X0.here hx rfl (hb hby at_4) k) ?_
  show Run _ _ _ _ _ _ _ s₁ (mkF m 5 #[.val (.int p0), .val (.int p1), .val (.int p2), .val (.int p3), .val (.int p4), .val (.int p5), .unset, .unset, .unset, .unset] [(.int (5 : Int32)), (.int (p0 &&& (2147483647 : Int32)))])
  refine go (T' := s₁) (f' := (mkF m 6 #[.val (.int p0), .val (.int p1), .val (.int p2), .val (.int p3), .val (.int p4), .val (.int p5), .unset, .unset, .unset, .unset] [(.int ((p0 &&& (2147483647 : Int32)) % (5 : Int32)))])) (by intro t k; exact iremM X0 hx rfl (hb hby at_5) rfl (by decide) k) ?_
  show Run _ _ _ _ _ _ _ s₁ (mkF m 6 #[.val (.int p0), .val (.int p1), .val (.int p2), .val (.int p3), .val (.int p4), .val (.int p5), .unset, .unset, .unset, .unset] [(.int ((p0 &&& (2147483647 : Int32)) % (5 : Int32)))])
  refine go (T' := s₁) (f' := (mkF m 8 #[.val (.int p0), .val (.int p1), .val (.int p2), .val (.int p3), .val (.int p4), .val (.int p5), .val (.int ((p0 &&& (2147483647 : Int32)) % (5 : Int32))), .unset, .unset, .unset] [])) (by intro t k; exact XS.istore X0.here hx rfl (hb hby at_6) rfl (l' := #[.val (.int p0), .val (.int p1), .val (.int p2), .val (.int p3), .val (.int p4), .val (.int p5), .val (.int ((p0 &&& (2147483647 : Int32)) % (5 : Int32))), .unset, .unset, .unset]) rfl k) ?_
  show Run _ _ _ _ _ _ _ s₁ (mkF m 8 #[.val (.int p0), .val (.int p1), .val (.int p2), .val (.int p3), .val (.int p4), .val (.int p5), .val (.int ((p0 &&& (2147483647 : Int32)) % (5 : Int32))), .unset, .unset, .unset] [])
  refine go (T' := s₁) (f' := (mkF m 10 #[.val (.int p0), .val (.int p1), .val (.int p2), .val (.int p3), .val (.int p4), .val (.int p5), .val (.int ((p0 &&& (2147483647 : Int32)) % (5 : Int32))), .unset, .unset, .unset] [(.int ((p0 &&& (2147483647 : Int32)) % (5 : Int32)))])) (by intro t k; exact XS.iload X0.here hx rfl (hb hby at_8) rfl k) ?_
  show Run _ _ _ _ _ _ _ s₁ (mkF m 10 #[.val (.int p0), .val (.int p1), .val (.int p2), .val (.int p3), .val (.int p4), .val (.int p5), .val (.int ((p0 &&& (2147483647 : Int32)) % (5 : Int32))), .unset, .unset, .unset] [(.int ((p0 &&& (2147483647 : Int32)) % (5 : Int32)))])
  obtain ⟨z1, hz1⟩ : ∃ z : Int32, z = (if ((p0 &&& (2147483647 : Int32)) % (5 : Int32)) = (0 : Int32) then (0 : Int32) else ((p1 &&& (2147483647 : Int32)) % (5 : Int32))) := ⟨_, rfl⟩
  have J10 : Run p e s below (Q0 Z p0 p1 p2 p3 p4 p5 h0 n0) room_1.cells room_1.slots s₁ (mkF m 23 #[.val (.int p0), .val (.int p1), .val (.int p2), .val (.int p3), .val (.int p4), .val (.int p5), .val (.int ((p0 &&& (2147483647 : Int32)) % (5 : Int32))), .unset, .unset, .unset] [(.int z1)]) := by
    show Run _ _ _ _ _ _ _ s₁ (mkF m 23 #[.val (.int p0), .val (.int p1), .val (.int p2), .val (.int p3), .val (.int p4), .val (.int p5), .val (.int ((p0 &&& (2147483647 : Int32)) % (5 : Int32))), .unset, .unset, .unset] [(.int z1)])
    refine go (T' := s₁) (f' := (mkF m 25 #[.val (.int p0), .val (.int p1), .val (.int p2), .val (.int p3), .val (.int p4), .val (.int p5), .val (.int ((p0 &&& (2147483647 : Int32)) % (5 : Int32))), .val (.int z1), .unset, .unset] [])) (by intro t k; exact XS.istore X0.here hx rfl (hb hby at_23) rfl (l' := #[.val (.int p0), .val (.int p1), .val (.int p2), .val (.int p3), .val (.int p4), .val (.int p5), .val (.int ((p0 &&& (2147483647 : Int32)) % (5 : Int32))), .val (.int z1), .unset, .unset]) rfl k) ?_
    show Run _ _ _ _ _ _ _ s₁ (mkF m 25 #[.val (.int p0), .val (.int p1), .val (.int p2), .val (.int p3), .val (.int p4), .val (.int p5), .val (.int ((p0 &&& (2147483647 : Int32)) % (5 : Int32))), .val (.int z1), .unset, .unset] [])
    refine go (T' := s₁) (f' := (mkF m 26 #[.val (.int p0), .val (.int p1), .val (.int p2), .val (.int p3), .val (.int p4), .val (.int p5), .val (.int ((p0 &&& (2147483647 : Int32)) % (5 : Int32))), .val (.int z1), .unset, .unset] [(.int (4 : Int32))])) (by intro t k; exact XS.iconst X0.here hx rfl (hb hby at_25) k) ?_
    show Run _ _ _ _ _ _ _ s₁ (mkF m 26 #[.val (.int p0), .val (.int p1), .val (.int p2), .val (.int p3), .val (.int p4), .val (.int p5), .val (.int ((p0 &&& (2147483647 : Int32)) % (5 : Int32))), .val (.int z1), .unset, .unset] [(.int (4 : Int32))])
    obtain ⟨T2, h2, kA2, X2, e2, E2, A2, EX2, st2⟩ := newPE X0 hx hZ (hw _ (List.mem_of_getElem? (i := 1) rfl)) e0 (g := (mkF m 26 #[.val (.int p0), .val (.int p1), .val (.int p2), .val (.int p3), .val (.int p4), .val (.int p5), .val (.int ((p0 &&& (2147483647 : Int32)) % (5 : Int32))), .val (.int z1), .unset, .unset] [(.int (4 : Int32))])) rfl (hb hby at_26) rfl (by decide) (cap := 4) (by decide) (by decide) (by decide) (by decide) (ad := "[I") (by decide)
    obtain ⟨b2, g2⟩ : ∃ z, z = h0.size := ⟨_, rfl⟩
    rw [← g2] at A2 EX2 st2
    have ge_b2 : n0 ≤ b2 := Nat.le_trans Z0 (Nat.le_of_eq g2.symm)
    have K2 : Keep h0 h2 [] := (Keep.refl _ _).ext E2
    have Z2 : n0 ≤ h2.size := Nat.le_trans Z0 K2.1
    have V2 : Ary Z h2 b2 .int [(.int (0 : Int32)), (.int (0 : Int32)), (.int (0 : Int32)), (.int (0 : Int32))] := Ary.new A2
    refine go st2 ?_
    show Run _ _ _ _ _ _ _ T2 (mkF m 28 #[.val (.int p0), .val (.int p1), .val (.int p2), .val (.int p3), .val (.int p4), .val (.int p5), .val (.int ((p0 &&& (2147483647 : Int32)) % (5 : Int32))), .val (.int z1), .unset, .unset] [(.ref b2)])
    refine go (T' := T2) (f' := (mkF m 30 #[.val (.int p0), .val (.int p1), .val (.int p2), .val (.int p3), .val (.int p4), .val (.int p5), .val (.int ((p0 &&& (2147483647 : Int32)) % (5 : Int32))), .val (.int z1), .val (.ref b2), .unset] [])) (by intro t k; exact XS.astore X2.here hx rfl (hb hby at_28) rfl rfl (l' := #[.val (.int p0), .val (.int p1), .val (.int p2), .val (.int p3), .val (.int p4), .val (.int p5), .val (.int ((p0 &&& (2147483647 : Int32)) % (5 : Int32))), .val (.int z1), .val (.ref b2), .unset]) rfl k) ?_
    show Run _ _ _ _ _ _ _ T2 (mkF m 30 #[.val (.int p0), .val (.int p1), .val (.int p2), .val (.int p3), .val (.int p4), .val (.int p5), .val (.int ((p0 &&& (2147483647 : Int32)) % (5 : Int32))), .val (.int z1), .val (.ref b2), .unset] [])
    refine go (T' := T2) (f' := (mkF m 32 #[.val (.int p0), .val (.int p1), .val (.int p2), .val (.int p3), .val (.int p4), .val (.int p5), .val (.int ((p0 &&& (2147483647 : Int32)) % (5 : Int32))), .val (.int z1), .val (.ref b2), .unset] [(.ref b2)])) (by intro t k; exact XS.aload X2.here hx rfl (hb hby at_30) rfl rfl k) ?_
    show Run _ _ _ _ _ _ _ T2 (mkF m 32 #[.val (.int p0), .val (.int p1), .val (.int p2), .val (.int p3), .val (.int p4), .val (.int p5), .val (.int ((p0 &&& (2147483647 : Int32)) % (5 : Int32))), .val (.int z1), .val (.ref b2), .unset] [(.ref b2)])
    refine go (T' := T2) (f' := (mkF m 33 #[.val (.int p0), .val (.int p1), .val (.int p2), .val (.int p3), .val (.int p4), .val (.int p5), .val (.int ((p0 &&& (2147483647 : Int32)) % (5 : Int32))), .val (.int z1), .val (.ref b2), .unset] [(.int (0 : Int32)), (.ref b2)])) (by intro t k; exact XS.iconst X2.here hx rfl (hb hby at_32) k) ?_
    show Run _ _ _ _ _ _ _ T2 (mkF m 33 #[.val (.int p0), .val (.int p1), .val (.int p2), .val (.int p3), .val (.int p4), .val (.int p5), .val (.int ((p0 &&& (2147483647 : Int32)) % (5 : Int32))), .val (.int z1), .val (.ref b2), .unset] [(.int (0 : Int32)), (.ref b2)])
    refine go (T' := T2) (f' := (mkF m 35 #[.val (.int p0), .val (.int p1), .val (.int p2), .val (.int p3), .val (.int p4), .val (.int p5), .val (.int ((p0 &&& (2147483647 : Int32)) % (5 : Int32))), .val (.int z1), .val (.ref b2), .unset] [(.int z1), (.int (0 : Int32)), (.ref b2)])) (by intro t k; exact XS.iload X2.here hx rfl (hb hby at_33) rfl k) ?_
    show Run _ _ _ _ _ _ _ T2 (mkF m 35 #[.val (.int p0), .val (.int p1), .val (.int p2), .val (.int p3), .val (.int p4), .val (.int p5), .val (.int ((p0 &&& (2147483647 : Int32)) % (5 : Int32))), .val (.int z1), .val (.ref b2), .unset] [(.int z1), (.int (0 : Int32)), (.ref b2)])
    obtain ⟨z3, hz3⟩ : ∃ z : Int32, z = (if (0 : Int32) < z1 then ((p2 &&& (2147483647 : Int32)) % ((p0 &&& (2147483647 : Int32)) % (5 : Int32))) else p2) := ⟨_, rfl⟩
    have J35 : Run p e s below (Q0 Z p0 p1 p2 p3 p4 p5 h0 n0) room_1.cells room_1.slots T2 (mkF m 49 #[.val (.int p0), .val (.int p1), .val (.int p2), .val (.int p3), .val (.int p4), .val (.int p5), .val (.int ((p0 &&& (2147483647 : Int32)) % (5 : Int32))), .val (.int z1), .val (.ref b2), .unset] [(.int z3), (.int (0 : Int32)), (.ref b2)]) := by
      show Run _ _ _ _ _ _ _ T2 (mkF m 49 #[.val (.int p0), .val (.int p1), .val (.int p2), .val (.int p3), .val (.int p4), .val (.int p5), .val (.int ((p0 &&& (2147483647 : Int32)) % (5 : Int32))), .val (.int z1), .val (.ref b2), .unset] [(.int z3), (.int (0 : Int32)), (.ref b2)])
      obtain ⟨cl4, Ar4, hin4⟩ := Ary.st (j := (0 : Int32)) V2 (by decide) (by show (0 : Int32).toNatClampNeg < 4; decide)
      obtain ⟨T4, h4, X4, e4, W4, st4⟩ := stI X2 hx hZ e2 Ar4 (j := (0 : Int32)) hin4 (g := (mkF m 49 #[.val (.int p0), .val (.int p1), .val (.int p2), .val (.int p3), .val (.int p4), .val (.int p5), .val (.int ((p0 &&& (2147483647 : Int32)) % (5 : Int32))), .val (.int z1), .val (.ref b2), .unset] [(.int z3), (.int (0 : Int32)), (.ref b2)])) rfl rfl (hb hby at_49)
      have K4 : Keep h2 h4 [b2] := Keep.of_wr W4
      have V4 : Ary Z h4 b2 .int [(.int z3), (.int (0 : Int32)), (.int (0 : Int32)), (.int (0 : Int32))] := Ary.set V2 W4 rfl
      have N4 := Fr.snoc X4 N0 ge_b2
      have E4_b2 : Exa Z h4 b2 "[I" := EX2.keep K4
      have Z4 : n0 ≤ h4.size := Nat.le_trans Z2 K4.1
      refine go st4 ?_
      show Run _ _ _ _ _ _ _ T4 (mkF m 50 #[.val (.int p0), .val (.int p1), .val (.int p2), .val (.int p3), .val (.int p4), .val (.int p5), .val (.int ((p0 &&& (2147483647 : Int32)) % (5 : Int32))), .val (.int z1), .val (.ref b2), .unset] [])
      refine go (T' := T4) (f' := (mkF m 52 #[.val (.int p0), .val (.int p1), .val (.int p2), .val (.int p3), .val (.int p4), .val (.int p5), .val (.int ((p0 &&& (2147483647 : Int32)) % (5 : Int32))), .val (.int z1), .val (.ref b2), .unset] [(.ref b2)])) (by intro t k; exact XS.aload X4.here hx rfl (hb hby at_50) rfl rfl k) ?_
      show Run _ _ _ _ _ _ _ T4 (mkF m 52 #[.val (.int p0), .val (.int p1), .val (.int p2), .val (.int p3), .val (.int p4), .val (.int p5), .val (.int ((p0 &&& (2147483647 : Int32)) % (5 : Int32))), .val (.int z1), .val (.ref b2), .unset] [(.ref b2)])
      refine go (T' := T4) (f' := (mkF m 53 #[.val (.int p0), .val (.int p1), .val (.int p2), .val (.int p3), .val (.int p4), .val (.int p5), .val (.int ((p0 &&& (2147483647 : Int32)) % (5 : Int32))), .val (.int z1), .val (.ref b2), .unset] [(.int (1 : Int32)), (.ref b2)])) (by intro t k; exact XS.iconst X4.here hx rfl (hb hby at_52) k) ?_
      show Run _ _ _ _ _ _ _ T4 (mkF m 53 #[.val (.int p0), .val (.int p1), .val (.int p2), .val (.int p3), .val (.int p4), .val (.int p5), .val (.int ((p0 &&& (2147483647 : Int32)) % (5 : Int32))), .val (.int z1), .val (.ref b2), .unset] [(.int (1 : Int32)), (.ref b2)])
      refine go (T' := T4) (f' := (mkF m 55 #[.val (.int p0), .val (.int p1), .val (.int p2), .val (.int p3), .val (.int p4), .val (.int p5), .val (.int ((p0 &&& (2147483647 : Int32)) % (5 : Int32))), .val (.int z1), .val (.ref b2), .unset] [(.int z1), (.int (1 : Int32)), (.ref b2)])) (by intro t k; exact XS.iload X4.here hx rfl (hb hby at_53) rfl k) ?_
      show Run _ _ _ _ _ _ _ T4 (mkF m 55 #[.val (.int p0), .val (.int p1), .val (.int p2), .val (.int p3), .val (.int p4), .val (.int p5), .val (.int ((p0 &&& (2147483647 : Int32)) % (5 : Int32))), .val (.int z1), .val (.ref b2), .unset] [(.int z1), (.int (1 : Int32)), (.ref b2)])
      refine go (T' := T4) (f' := (mkF m 56 #[.val (.int p0), .val (.int p1), .val (.int p2), .val (.int p3), .val (.int p4), .val (.int p5), .val (.int ((p0 &&& (2147483647 : Int32)) % (5 : Int32))), .val (.int z1), .val (.ref b2), .unset] [(.int (1 : Int32)), (.int z1), (.int (1 : Int32)), (.ref b2)])) (by intro t k; exact XS.iconst X4.here hx rfl (hb hby at_55) k) ?_
      show Run _ _ _ _ _ _ _ T4 (mkF m 56 #[.val (.int p0), .val (.int p1), .val (.int p2), .val (.int p3), .val (.int p4), .val (.int p5), .val (.int ((p0 &&& (2147483647 : Int32)) % (5 : Int32))), .val (.int z1), .val (.ref b2), .unset] [(.int (1 : Int32)), (.int z1), (.int (1 : Int32)), (.ref b2)])
      obtain ⟨z5, hz5⟩ : ∃ z : Int32, z = (if (1 : Int32) < z1 then ((p3 &&& (2147483647 : Int32)) % ((p0 &&& (2147483647 : Int32)) % (5 : Int32))) else p3) := ⟨_, rfl⟩
      have J56 : Run p e s below (Q0 Z p0 p1 p2 p3 p4 p5 h0 n0) room_1.cells room_1.slots T4 (mkF m 70 #[.val (.int p0), .val (.int p1), .val (.int p2), .val (.int p3), .val (.int p4), .val (.int p5), .val (.int ((p0 &&& (2147483647 : Int32)) % (5 : Int32))), .val (.int z1), .val (.ref b2), .unset] [(.int z5), (.int (1 : Int32)), (.ref b2)]) := by
        show Run _ _ _ _ _ _ _ T4 (mkF m 70 #[.val (.int p0), .val (.int p1), .val (.int p2), .val (.int p3), .val (.int p4), .val (.int p5), .val (.int ((p0 &&& (2147483647 : Int32)) % (5 : Int32))), .val (.int z1), .val (.ref b2), .unset] [(.int z5), (.int (1 : Int32)), (.ref b2)])
        obtain ⟨cl6, Ar6, hin6⟩ := Ary.st (j := (1 : Int32)) V4 (by decide) (by show (1 : Int32).toNatClampNeg < 4; decide)
        obtain ⟨T6, h6, X6, e6, W6, st6⟩ := stI X4 hx hZ e4 Ar6 (j := (1 : Int32)) hin6 (g := (mkF m 70 #[.val (.int p0), .val (.int p1), .val (.int p2), .val (.int p3), .val (.int p4), .val (.int p5), .val (.int ((p0 &&& (2147483647 : Int32)) % (5 : Int32))), .val (.int z1), .val (.ref b2), .unset] [(.int z5), (.int (1 : Int32)), (.ref b2)])) rfl rfl (hb hby at_70)
        have K6 : Keep h4 h6 [b2] := Keep.of_wr W6
        have V6 : Ary Z h6 b2 .int [(.int z3), (.int z5), (.int (0 : Int32)), (.int (0 : Int32))] := Ary.set V4 W6 rfl
        have N6 := Fr.snoc X6 N4 ge_b2
        have E6_b2 : Exa Z h6 b2 "[I" := E4_b2.keep K6
        have Z6 : n0 ≤ h6.size := Nat.le_trans Z4 K6.1
        refine go st6 ?_
        show Run _ _ _ _ _ _ _ T6 (mkF m 71 #[.val (.int p0), .val (.int p1), .val (.int p2), .val (.int p3), .val (.int p4), .val (.int p5), .val (.int ((p0 &&& (2147483647 : Int32)) % (5 : Int32))), .val (.int z1), .val (.ref b2), .unset] [])
        refine go (T' := T6) (f' := (mkF m 73 #[.val (.int p0), .val (.int p1), .val (.int p2), .val (.int p3), .val (.int p4), .val (.int p5), .val (.int ((p0 &&& (2147483647 : Int32)) % (5 : Int32))), .val (.int z1), .val (.ref b2), .unset] [(.ref b2)])) (by intro t k; exact XS.aload X6.here hx rfl (hb hby at_71) rfl rfl k) ?_
        show Run _ _ _ _ _ _ _ T6 (mkF m 73 #[.val (.int p0), .val (.int p1), .val (.int p2), .val (.int p3), .val (.int p4), .val (.int p5), .val (.int ((p0 &&& (2147483647 : Int32)) % (5 : Int32))), .val (.int z1), .val (.ref b2), .unset] [(.ref b2)])
        refine go (T' := T6) (f' := (mkF m 74 #[.val (.int p0), .val (.int p1), .val (.int p2), .val (.int p3), .val (.int p4), .val (.int p5), .val (.int ((p0 &&& (2147483647 : Int32)) % (5 : Int32))), .val (.int z1), .val (.ref b2), .unset] [(.int (2 : Int32)), (.ref b2)])) (by intro t k; exact XS.iconst X6.here hx rfl (hb hby at_73) k) ?_
        show Run _ _ _ _ _ _ _ T6 (mkF m 74 #[.val (.int p0), .val (.int p1), .val (.int p2), .val (.int p3), .val (.int p4), .val (.int p5), .val (.int ((p0 &&& (2147483647 : Int32)) % (5 : Int32))), .val (.int z1), .val (.ref b2), .unset] [(.int (2 : Int32)), (.ref b2)])
        refine go (T' := T6) (f' := (mkF m 76 #[.val (.int p0), .val (.int p1), .val (.int p2), .val (.int p3), .val (.int p4), .val (.int p5), .val (.int ((p0 &&& (2147483647 : Int32)) % (5 : Int32))), .val (.int z1), .val (.ref b2), .unset] [(.int z1), (.int (2 : Int32)), (.ref b2)])) (by intro t k; exact XS.iload X6.here hx rfl (hb hby at_74) rfl k) ?_
        show Run _ _ _ _ _ _ _ T6 (mkF m 76 #[.val (.int p0), .val (.int p1), .val (.int p2), .val (.int p3), .val (.int p4), .val (.int p5), .val (.int ((p0 &&& (2147483647 : Int32)) % (5 : Int32))), .val (.int z1), .val (.ref b2), .unset] [(.int z1), (.int (2 : Int32)), (.ref b2)])
        refine go (T' := T6) (f' := (mkF m 77 #[.val (.int p0), .val (.int p1), .val (.int p2), .val (.int p3), .val (.int p4), .val (.int p5), .val (.int ((p0 &&& (2147483647 : Int32)) % (5 : Int32))), .val (.int z1), .val (.ref b2), .unset] [(.int (2 : Int32)), (.int z1), (.int (2 : Int32)), (.ref b2)])) (by intro t k; exact XS.iconst X6.here hx rfl (hb hby at_76) k) ?_
        show Run _ _ _ _ _ _ _ T6 (mkF m 77 #[.val (.int p0), .val (.int p1), .val (.int p2), .val (.int p3), .val (.int p4), .val (.int p5), .val (.int ((p0 &&& (2147483647 : Int32)) % (5 : Int32))), .val (.int z1), .val (.ref b2), .unset] [(.int (2 : Int32)), (.int z1), (.int (2 : Int32)), (.ref b2)])
        obtain ⟨z7, hz7⟩ : ∃ z : Int32, z = (if (2 : Int32) < z1 then ((p4 &&& (2147483647 : Int32)) % ((p0 &&& (2147483647 : Int32)) % (5 : Int32))) else p4) := ⟨_, rfl⟩
        have J77 : Run p e s below (Q0 Z p0 p1 p2 p3 p4 p5 h0 n0) room_1.cells room_1.slots T6 (mkF m 93 #[.val (.int p0), .val (.int p1), .val (.int p2), .val (.int p3), .val (.int p4), .val (.int p5), .val (.int ((p0 &&& (2147483647 : Int32)) % (5 : Int32))), .val (.int z1), .val (.ref b2), .unset] [(.int z7), (.int (2 : Int32)), (.ref b2)]) := by
          show Run _ _ _ _ _ _ _ T6 (mkF m 93 #[.val (.int p0), .val (.int p1), .val (.int p2), .val (.int p3), .val (.int p4), .val (.int p5), .val (.int ((p0 &&& (2147483647 : Int32)) % (5 : Int32))), .val (.int z1), .val (.ref b2), .unset] [(.int z7), (.int (2 : Int32)), (.ref b2)])
          obtain ⟨cl8, Ar8, hin8⟩ := Ary.st (j := (2 : Int32)) V6 (by decide) (by show (2 : Int32).toNatClampNeg < 4; decide)
          obtain ⟨T8, h8, X8, e8, W8, st8⟩ := stI X6 hx hZ e6 Ar8 (j := (2 : Int32)) hin8 (g := (mkF m 93 #[.val (.int p0), .val (.int p1), .val (.int p2), .val (.int p3), .val (.int p4), .val (.int p5), .val (.int ((p0 &&& (2147483647 : Int32)) % (5 : Int32))), .val (.int z1), .val (.ref b2), .unset] [(.int z7), (.int (2 : Int32)), (.ref b2)])) rfl rfl (hb hby at_93)
          have K8 : Keep h6 h8 [b2] := Keep.of_wr W8
          have V8 : Ary Z h8 b2 .int [(.int z3), (.int z5), (.int z7), (.int (0 : Int32))] := Ary.set V6 W8 rfl
          have N8 := Fr.snoc X8 N6 ge_b2
          have E8_b2 : Exa Z h8 b2 "[I" := E6_b2.keep K8
          have Z8 : n0 ≤ h8.size := Nat.le_trans Z6 K8.1
          refine go st8 ?_
          show Run _ _ _ _ _ _ _ T8 (mkF m 94 #[.val (.int p0), .val (.int p1), .val (.int p2), .val (.int p3), .val (.int p4), .val (.int p5), .val (.int ((p0 &&& (2147483647 : Int32)) % (5 : Int32))), .val (.int z1), .val (.ref b2), .unset] [])
          refine go (T' := T8) (f' := (mkF m 96 #[.val (.int p0), .val (.int p1), .val (.int p2), .val (.int p3), .val (.int p4), .val (.int p5), .val (.int ((p0 &&& (2147483647 : Int32)) % (5 : Int32))), .val (.int z1), .val (.ref b2), .unset] [(.ref b2)])) (by intro t k; exact XS.aload X8.here hx rfl (hb hby at_94) rfl rfl k) ?_
          show Run _ _ _ _ _ _ _ T8 (mkF m 96 #[.val (.int p0), .val (.int p1), .val (.int p2), .val (.int p3), .val (.int p4), .val (.int p5), .val (.int ((p0 &&& (2147483647 : Int32)) % (5 : Int32))), .val (.int z1), .val (.ref b2), .unset] [(.ref b2)])
          refine go (T' := T8) (f' := (mkF m 97 #[.val (.int p0), .val (.int p1), .val (.int p2), .val (.int p3), .val (.int p4), .val (.int p5), .val (.int ((p0 &&& (2147483647 : Int32)) % (5 : Int32))), .val (.int z1), .val (.ref b2), .unset] [(.int (3 : Int32)), (.ref b2)])) (by intro t k; exact XS.iconst X8.here hx rfl (hb hby at_96) k) ?_
          show Run _ _ _ _ _ _ _ T8 (mkF m 97 #[.val (.int p0), .val (.int p1), .val (.int p2), .val (.int p3), .val (.int p4), .val (.int p5), .val (.int ((p0 &&& (2147483647 : Int32)) % (5 : Int32))), .val (.int z1), .val (.ref b2), .unset] [(.int (3 : Int32)), (.ref b2)])
          refine go (T' := T8) (f' := (mkF m 99 #[.val (.int p0), .val (.int p1), .val (.int p2), .val (.int p3), .val (.int p4), .val (.int p5), .val (.int ((p0 &&& (2147483647 : Int32)) % (5 : Int32))), .val (.int z1), .val (.ref b2), .unset] [(.int z1), (.int (3 : Int32)), (.ref b2)])) (by intro t k; exact XS.iload X8.here hx rfl (hb hby at_97) rfl k) ?_
          show Run _ _ _ _ _ _ _ T8 (mkF m 99 #[.val (.int p0), .val (.int p1), .val (.int p2), .val (.int p3), .val (.int p4), .val (.int p5), .val (.int ((p0 &&& (2147483647 : Int32)) % (5 : Int32))), .val (.int z1), .val (.ref b2), .unset] [(.int z1), (.int (3 : Int32)), (.ref b2)])
          refine go (T' := T8) (f' := (mkF m 100 #[.val (.int p0), .val (.int p1), .val (.int p2), .val (.int p3), .val (.int p4), .val (.int p5), .val (.int ((p0 &&& (2147483647 : Int32)) % (5 : Int32))), .val (.int z1), .val (.ref b2), .unset] [(.int (3 : Int32)), (.int z1), (.int (3 : Int32)), (.ref b2)])) (by intro t k; exact XS.iconst X8.here hx rfl (hb hby at_99) k) ?_
          show Run _ _ _ _ _ _ _ T8 (mkF m 100 #[.val (.int p0), .val (.int p1), .val (.int p2), .val (.int p3), .val (.int p4), .val (.int p5), .val (.int ((p0 &&& (2147483647 : Int32)) % (5 : Int32))), .val (.int z1), .val (.ref b2), .unset] [(.int (3 : Int32)), (.int z1), (.int (3 : Int32)), (.ref b2)])
          obtain ⟨z9, hz9⟩ : ∃ z : Int32, z = (if (3 : Int32) < z1 then ((p5 &&& (2147483647 : Int32)) % ((p0 &&& (2147483647 : Int32)) % (5 : Int32))) else p5) := ⟨_, rfl⟩
          have J100 : Run p e s below (Q0 Z p0 p1 p2 p3 p4 p5 h0 n0) room_1.cells room_1.slots T8 (mkF m 116 #[.val (.int p0), .val (.int p1), .val (.int p2), .val (.int p3), .val (.int p4), .val (.int p5), .val (.int ((p0 &&& (2147483647 : Int32)) % (5 : Int32))), .val (.int z1), .val (.ref b2), .unset] [(.int z9), (.int (3 : Int32)), (.ref b2)]) := by
            show Run _ _ _ _ _ _ _ T8 (mkF m 116 #[.val (.int p0), .val (.int p1), .val (.int p2), .val (.int p3), .val (.int p4), .val (.int p5), .val (.int ((p0 &&& (2147483647 : Int32)) % (5 : Int32))), .val (.int z1), .val (.ref b2), .unset] [(.int z9), (.int (3 : Int32)), (.ref b2)])
            obtain ⟨cl10, Ar10, hin10⟩ := Ary.st (j := (3 : Int32)) V8 (by decide) (by show (3 : Int32).toNatClampNeg < 4; decide)
            obtain ⟨T10, h10, X10, e10, W10, st10⟩ := stI X8 hx hZ e8 Ar10 (j := (3 : Int32)) hin10 (g := (mkF m 116 #[.val (.int p0), .val (.int p1), .val (.int p2), .val (.int p3), .val (.int p4), .val (.int p5), .val (.int ((p0 &&& (2147483647 : Int32)) % (5 : Int32))), .val (.int z1), .val (.ref b2), .unset] [(.int z9), (.int (3 : Int32)), (.ref b2)])) rfl rfl (hb hby at_116)
            have K10 : Keep h8 h10 [b2] := Keep.of_wr W10
            have V10 : Ary Z h10 b2 .int [(.int z3), (.int z5), (.int z7), (.int z9)] := Ary.set V8 W10 rfl
            have N10 := Fr.snoc X10 N8 ge_b2
            have E10_b2 : Exa Z h10 b2 "[I" := E8_b2.keep K10
            have Z10 : n0 ≤ h10.size := Nat.le_trans Z8 K10.1
            refine go st10 ?_
            show Run _ _ _ _ _ _ _ T10 (mkF m 117 #[.val (.int p0), .val (.int p1), .val (.int p2), .val (.int p3), .val (.int p4), .val (.int p5), .val (.int ((p0 &&& (2147483647 : Int32)) % (5 : Int32))), .val (.int z1), .val (.ref b2), .unset] [])
            refine go (T' := T10) (f' := (mkF m 119 #[.val (.int p0), .val (.int p1), .val (.int p2), .val (.int p3), .val (.int p4), .val (.int p5), .val (.int ((p0 &&& (2147483647 : Int32)) % (5 : Int32))), .val (.int z1), .val (.ref b2), .unset] [(.ref b2)])) (by intro t k; exact XS.aload X10.here hx rfl (hb hby at_117) rfl rfl k) ?_
            show Run _ _ _ _ _ _ _ T10 (mkF m 119 #[.val (.int p0), .val (.int p1), .val (.int p2), .val (.int p3), .val (.int p4), .val (.int p5), .val (.int ((p0 &&& (2147483647 : Int32)) % (5 : Int32))), .val (.int z1), .val (.ref b2), .unset] [(.ref b2)])
            refine go (T' := T10) (f' := (mkF m 121 #[.val (.int p0), .val (.int p1), .val (.int p2), .val (.int p3), .val (.int p4), .val (.int p5), .val (.int ((p0 &&& (2147483647 : Int32)) % (5 : Int32))), .val (.int z1), .val (.ref b2), .unset] [(.int z1), (.ref b2)])) (by intro t k; exact XS.iload X10.here hx rfl (hb hby at_119) rfl k) ?_
            show Run _ _ _ _ _ _ _ T10 (mkF m 121 #[.val (.int p0), .val (.int p1), .val (.int p2), .val (.int p3), .val (.int p4), .val (.int p5), .val (.int ((p0 &&& (2147483647 : Int32)) % (5 : Int32))), .val (.int z1), .val (.ref b2), .unset] [(.int z1), (.ref b2)])
            refine go (T' := T10) (f' := (mkF m 123 #[.val (.int p0), .val (.int p1), .val (.int p2), .val (.int p3), .val (.int p4), .val (.int p5), .val (.int ((p0 &&& (2147483647 : Int32)) % (5 : Int32))), .val (.int z1), .val (.ref b2), .unset] [(.int ((p0 &&& (2147483647 : Int32)) % (5 : Int32))), (.int z1), (.ref b2)])) (by intro t k; exact XS.iload X10.here hx rfl (hb hby at_121) rfl k) ?_
            show Run _ _ _ _ _ _ _ T10 (mkF m 123 #[.val (.int p0), .val (.int p1), .val (.int p2), .val (.int p3), .val (.int p4), .val (.int p5), .val (.int ((p0 &&& (2147483647 : Int32)) % (5 : Int32))), .val (.int z1), .val (.ref b2), .unset] [(.int ((p0 &&& (2147483647 : Int32)) % (5 : Int32))), (.int z1), (.ref b2)])
            obtain ⟨_, _, ⟨T11, Lz11, kz11, nz11⟩, -, X11, ⟨Lc11, hQ11, lz11, yz11, zz11⟩, st11⟩ := Jvm.LawKit.callS X10 hx (y := (⟨"com/example/settle/settle/model/IntArrays", "starts", "([III)[I"⟩ : MethodName)) hown (mvT hZ (hw _ (List.mem_of_getElem? (i := 2) rfl))) (mvT hZ (hw _ (List.mem_of_getElem? (i := 3) rfl))) (mvT hZ (hw _ (List.mem_of_getElem? (i := 4) rfl))) (mvT hZ (hw _ (List.mem_of_getElem? (i := 5) rfl))) (by decide) (backOf (W := 0) (rm1 l Z aw hw [] b2 z1 ((p0 &&& (2147483647 : Int32)) % (5 : Int32)) z3 z5 z7 z9 h10 n0 Z10 V10 (own_mod5 _) (own_zz hz1 (own_mod5 _).1).1 (own_ks hz1 (own_mod5 _).1 hz3 hz5 hz7 hz9)) hZ (hw _ (List.mem_of_getElem? (i := 5) rfl)) (hw _ (List.mem_of_getElem? (i := 4) rfl)) (by decide) (by decide)) (g := (mkF m 123 #[.val (.int p0), .val (.int p1), .val (.int p2), .val (.int p3), .val (.int p4), .val (.int p5), .val (.int ((p0 &&& (2147483647 : Int32)) % (5 : Int32))), .val (.int z1), .val (.ref b2), .unset] [(.int ((p0 &&& (2147483647 : Int32)) % (5 : Int32))), (.int z1), (.ref b2)])) rfl (by rw [hml]; rfl) (argsL := [(.ref b2), (.int z1), (.int ((p0 &&& (2147483647 : Int32)) % (5 : Int32)))]) (rest := []) (lenOf pd_285bIII295bI rfl) rfl (by show 2 * 0 + _ ≤ _; exact Nat.le_of_eq rfl) (hb hby at_123) (fun _ _ => ⟨rfl, e10, (by decide : 1 + 1 ≤ _), (by decide : 4 + 5 ≤ _)⟩)
            dsimp only [Pt.U, Pt.locs, Pt.cells, Pt.slots] at X11 lz11 yz11 zz11 st11 hQ11
            subst lz11 yz11 zz11
            obtain ⟨r11, rfl, sc11, N11q, K11, Aq11⟩ := hQ11
            have ne_b2_r11 : b2 ≠ r11 := Nat.ne_of_lt (Nat.lt_of_lt_of_le E10_b2.lt sc11)
            have ge_r11 : n0 ≤ r11 := Nat.le_trans Z10 sc11
            have E11_b2 : Exa Z T11.heap b2 "[I" := E10_b2.keep K11
            have A11_b2 : Ary Z T11.heap b2 .int [(.int z3), (.int z5), (.int z7), (.int z9)] := V10.keep K11 nin0
            have Z11 : n0 ≤ T11.heap.size := Nat.le_trans Z10 K11.1
            have N11 := Fr.app N10 N11q
            refine go st11 ?_
            show Run _ _ _ _ _ _ _ T11 (mkF m 126 #[.val (.int p0), .val (.int p1), .val (.int p2), .val (.int p3), .val (.int p4), .val (.int p5), .val (.int ((p0 &&& (2147483647 : Int32)) % (5 : Int32))), .val (.int z1), .val (.ref b2), .unset] [(.ref r11)])
            refine go (T' := T11) (f' := (mkF m 128 #[.val (.int p0), .val (.int p1), .val (.int p2), .val (.int p3), .val (.int p4), .val (.int p5), .val (.int ((p0 &&& (2147483647 : Int32)) % (5 : Int32))), .val (.int z1), .val (.ref b2), .val (.ref r11)] [])) (by intro t k; exact XS.astore X11.here hx rfl (hb hby at_126) rfl rfl (l' := #[.val (.int p0), .val (.int p1), .val (.int p2), .val (.int p3), .val (.int p4), .val (.int p5), .val (.int ((p0 &&& (2147483647 : Int32)) % (5 : Int32))), .val (.int z1), .val (.ref b2), .val (.ref r11)]) rfl k) ?_
            show Run _ _ _ _ _ _ _ T11 (mkF m 128 #[.val (.int p0), .val (.int p1), .val (.int p2), .val (.int p3), .val (.int p4), .val (.int p5), .val (.int ((p0 &&& (2147483647 : Int32)) % (5 : Int32))), .val (.int z1), .val (.ref b2), .val (.ref r11)] [])
            refine go (T' := T11) (f' := (mkF m 130 #[.val (.int p0), .val (.int p1), .val (.int p2), .val (.int p3), .val (.int p4), .val (.int p5), .val (.int ((p0 &&& (2147483647 : Int32)) % (5 : Int32))), .val (.int z1), .val (.ref b2), .val (.ref r11)] [(.ref r11)])) (by intro t k; exact XS.aload X11.here hx rfl (hb hby at_128) rfl rfl k) ?_
            show Run _ _ _ _ _ _ _ T11 (mkF m 130 #[.val (.int p0), .val (.int p1), .val (.int p2), .val (.int p3), .val (.int p4), .val (.int p5), .val (.int ((p0 &&& (2147483647 : Int32)) % (5 : Int32))), .val (.int z1), .val (.ref b2), .val (.ref r11)] [(.ref r11)])
            refine go (T' := T11) (f' := (mkF m 131 #[.val (.int p0), .val (.int p1), .val (.int p2), .val (.int p3), .val (.int p4), .val (.int p5), .val (.int ((p0 &&& (2147483647 : Int32)) % (5 : Int32))), .val (.int z1), .val (.ref b2), .val (.ref r11)] [(.int (((p0 &&& (2147483647 : Int32)) % (5 : Int32)) + (1 : Int32)))])) (by intro t k; exact alen X11 hx hZ rfl Aq11 (z := (((p0 &&& (2147483647 : Int32)) % (5 : Int32)) + (1 : Int32))) (own_len (own_mod5 _).1 (own_mod5 _).2) (g := (mkF m 130 #[.val (.int p0), .val (.int p1), .val (.int p2), .val (.int p3), .val (.int p4), .val (.int p5), .val (.int ((p0 &&& (2147483647 : Int32)) % (5 : Int32))), .val (.int z1), .val (.ref b2), .val (.ref r11)] [(.ref r11)])) rfl rfl (hb hby at_130) _ k) ?_
            show Run _ _ _ _ _ _ _ T11 (mkF m 131 #[.val (.int p0), .val (.int p1), .val (.int p2), .val (.int p3), .val (.int p4), .val (.int p5), .val (.int ((p0 &&& (2147483647 : Int32)) % (5 : Int32))), .val (.int z1), .val (.ref b2), .val (.ref r11)] [(.int (((p0 &&& (2147483647 : Int32)) % (5 : Int32)) + (1 : Int32)))])
            refine go (T' := T11) (f' := (mkF m 133 #[.val (.int p0), .val (.int p1), .val (.int p2), .val (.int p3), .val (.int p4), .val (.int p5), .val (.int ((p0 &&& (2147483647 : Int32)) % (5 : Int32))), .val (.int z1), .val (.ref b2), .val (.ref r11)] [(.int ((p0 &&& (2147483647 : Int32)) % (5 : Int32))), (.int (((p0 &&& (2147483647 : Int32)) % (5 : Int32)) + (1 : Int32)))])) (by intro t k; exact XS.iload X11.here hx rfl (hb hby at_131) rfl k) ?_
            show Run _ _ _ _ _ _ _ T11 (mkF m 133 #[.val (.int p0), .val (.int p1), .val (.int p2), .val (.int p3), .val (.int p4), .val (.int p5), .val (.int ((p0 &&& (2147483647 : Int32)) % (5 : Int32))), .val (.int z1), .val (.ref b2), .val (.ref r11)] [(.int ((p0 &&& (2147483647 : Int32)) % (5 : Int32))), (.int (((p0 &&& (2147483647 : Int32)) % (5 : Int32)) + (1 : Int32)))])
            refine go (T' := T11) (f' := (mkF m 134 #[.val (.int p0), .val (.int p1), .val (.int p2), .val (.int p3), .val (.int p4), .val (.int p5), .val (.int ((p0 &&& (2147483647 : Int32)) % (5 : Int32))), .val (.int z1), .val (.ref b2), .val (.ref r11)] [(.int (1 : Int32)), (.int ((p0 &&& (2147483647 : Int32)) % (5 : Int32))), (.int (((p0 &&& (2147483647 : Int32)) % (5 : Int32)) + (1 : Int32)))])) (by intro t k; exact XS.iconst X11.here hx rfl (hb hby at_133) k) ?_
            show Run _ _ _ _ _ _ _ T11 (mkF m 134 #[.val (.int p0), .val (.int p1), .val (.int p2), .val (.int p3), .val (.int p4), .val (.int p5), .val (.int ((p0 &&& (2147483647 : Int32)) % (5 : Int32))), .val (.int z1), .val (.ref b2), .val (.ref r11)] [(.int (1 : Int32)), (.int ((p0 &&& (2147483647 : Int32)) % (5 : Int32))), (.int (((p0 &&& (2147483647 : Int32)) % (5 : Int32)) + (1 : Int32)))])
            refine go (T' := T11) (f' := (mkF m 135 #[.val (.int p0), .val (.int p1), .val (.int p2), .val (.int p3), .val (.int p4), .val (.int p5), .val (.int ((p0 &&& (2147483647 : Int32)) % (5 : Int32))), .val (.int z1), .val (.ref b2), .val (.ref r11)] [(.int (((p0 &&& (2147483647 : Int32)) % (5 : Int32)) + (1 : Int32))), (.int (((p0 &&& (2147483647 : Int32)) % (5 : Int32)) + (1 : Int32)))])) (by intro t k; exact XS.iadd X11.here hx rfl (hb hby at_134) rfl k) ?_
            show Run _ _ _ _ _ _ _ T11 (mkF m 135 #[.val (.int p0), .val (.int p1), .val (.int p2), .val (.int p3), .val (.int p4), .val (.int p5), .val (.int ((p0 &&& (2147483647 : Int32)) % (5 : Int32))), .val (.int z1), .val (.ref b2), .val (.ref r11)] [(.int (((p0 &&& (2147483647 : Int32)) % (5 : Int32)) + (1 : Int32))), (.int (((p0 &&& (2147483647 : Int32)) % (5 : Int32)) + (1 : Int32)))])
            refine go (T' := T11) (f' := (mkF m 140 #[.val (.int p0), .val (.int p1), .val (.int p2), .val (.int p3), .val (.int p4), .val (.int p5), .val (.int ((p0 &&& (2147483647 : Int32)) % (5 : Int32))), .val (.int z1), .val (.ref b2), .val (.ref r11)] [])) (by intro t k; exact XS.icmpYes X11.here hx rfl (pc0 := 135) (pc' := 140) rfl (hb hby at_135) rfl (teq (rfl : (((p0 &&& (2147483647 : Int32)) % (5 : Int32)) + (1 : Int32)) = (((p0 &&& (2147483647 : Int32)) % (5 : Int32)) + (1 : Int32)))).1 (by decide) (by decide) k) ?_
            show Run _ _ _ _ _ _ _ T11 (mkF m 140 #[.val (.int p0), .val (.int p1), .val (.int p2), .val (.int p3), .val (.int p4), .val (.int p5), .val (.int ((p0 &&& (2147483647 : Int32)) % (5 : Int32))), .val (.int z1), .val (.ref b2), .val (.ref r11)] [])
            refine go (T' := T11) (f' := (mkF m 142 #[.val (.int p0), .val (.int p1), .val (.int p2), .val (.int p3), .val (.int p4), .val (.int p5), .val (.int ((p0 &&& (2147483647 : Int32)) % (5 : Int32))), .val (.int z1), .val (.ref b2), .val (.ref r11)] [(.ref r11)])) (by intro t k; exact XS.aload X11.here hx rfl (hb hby at_140) rfl rfl k) ?_
            show Run _ _ _ _ _ _ _ T11 (mkF m 142 #[.val (.int p0), .val (.int p1), .val (.int p2), .val (.int p3), .val (.int p4), .val (.int p5), .val (.int ((p0 &&& (2147483647 : Int32)) % (5 : Int32))), .val (.int z1), .val (.ref b2), .val (.ref r11)] [(.ref r11)])
            refine go (T' := T11) (f' := (mkF m 144 #[.val (.int p0), .val (.int p1), .val (.int p2), .val (.int p3), .val (.int p4), .val (.int p5), .val (.int ((p0 &&& (2147483647 : Int32)) % (5 : Int32))), .val (.int z1), .val (.ref b2), .val (.ref r11)] [(.ref b2), (.ref r11)])) (by intro t k; exact XS.aload X11.here hx rfl (hb hby at_142) rfl rfl k) ?_
            show Run _ _ _ _ _ _ _ T11 (mkF m 144 #[.val (.int p0), .val (.int p1), .val (.int p2), .val (.int p3), .val (.int p4), .val (.int p5), .val (.int ((p0 &&& (2147483647 : Int32)) % (5 : Int32))), .val (.int z1), .val (.ref b2), .val (.ref r11)] [(.ref b2), (.ref r11)])
            refine go (T' := T11) (f' := (mkF m 146 #[.val (.int p0), .val (.int p1), .val (.int p2), .val (.int p3), .val (.int p4), .val (.int p5), .val (.int ((p0 &&& (2147483647 : Int32)) % (5 : Int32))), .val (.int z1), .val (.ref b2), .val (.ref r11)] [(.int z1), (.ref b2), (.ref r11)])) (by intro t k; exact XS.iload X11.here hx rfl (hb hby at_144) rfl k) ?_
            show Run _ _ _ _ _ _ _ T11 (mkF m 146 #[.val (.int p0), .val (.int p1), .val (.int p2), .val (.int p3), .val (.int p4), .val (.int p5), .val (.int ((p0 &&& (2147483647 : Int32)) % (5 : Int32))), .val (.int z1), .val (.ref b2), .val (.ref r11)] [(.int z1), (.ref b2), (.ref r11)])
            refine go (T' := T11) (f' := (mkF m 148 #[.val (.int p0), .val (.int p1), .val (.int p2), .val (.int p3), .val (.int p4), .val (.int p5), .val (.int ((p0 &&& (2147483647 : Int32)) % (5 : Int32))), .val (.int z1), .val (.ref b2), .val (.ref r11)] [(.int ((p0 &&& (2147483647 : Int32)) % (5 : Int32))), (.int z1), (.ref b2), (.ref r11)])) (by intro t k; exact XS.iload X11.here hx rfl (hb hby at_146) rfl k) ?_
            show Run _ _ _ _ _ _ _ T11 (mkF m 148 #[.val (.int p0), .val (.int p1), .val (.int p2), .val (.int p3), .val (.int p4), .val (.int p5), .val (.int ((p0 &&& (2147483647 : Int32)) % (5 : Int32))), .val (.int z1), .val (.ref b2), .val (.ref r11)] [(.int ((p0 &&& (2147483647 : Int32)) % (5 : Int32))), (.int z1), (.ref b2), (.ref r11)])
            refine go (T' := T11) (f' := (mkF m 149 #[.val (.int p0), .val (.int p1), .val (.int p2), .val (.int p3), .val (.int p4), .val (.int p5), .val (.int ((p0 &&& (2147483647 : Int32)) % (5 : Int32))), .val (.int z1), .val (.ref b2), .val (.ref r11)] [(.int (0 : Int32)), (.int ((p0 &&& (2147483647 : Int32)) % (5 : Int32))), (.int z1), (.ref b2), (.ref r11)])) (by intro t k; exact XS.iconst X11.here hx rfl (hb hby at_148) k) ?_
            show Run _ _ _ _ _ _ _ T11 (mkF m 149 #[.val (.int p0), .val (.int p1), .val (.int p2), .val (.int p3), .val (.int p4), .val (.int p5), .val (.int ((p0 &&& (2147483647 : Int32)) % (5 : Int32))), .val (.int z1), .val (.ref b2), .val (.ref r11)] [(.int (0 : Int32)), (.int ((p0 &&& (2147483647 : Int32)) % (5 : Int32))), (.int z1), (.ref b2), (.ref r11)])
            obtain ⟨_, _, ⟨T12, Lz12, kz12, nz12⟩, -, X12, ⟨Lc12, hQ12, lz12, yz12, zz12⟩, st12⟩ := Jvm.LawKit.callS X11 hx (y := (⟨"com/example/settle/settle/model/IntArraysStartsPinLaw", "check", "([I[IIII)Z"⟩ : MethodName)) hown (mvT hZ (hw _ (List.mem_of_getElem? (i := 6) rfl))) (mvT hZ (hw _ (List.mem_of_getElem? (i := 7) rfl))) (mvT hZ (hw _ (List.mem_of_getElem? (i := 8) rfl))) (mvT hZ (hw _ (List.mem_of_getElem? (i := 9) rfl))) (by decide) (backOf (W := 0) (rm2 l Z aw hw [] r11 b2 z1 ((p0 &&& (2147483647 : Int32)) % (5 : Int32)) (0 : Int32) (own_st [z3, z5, z7, z9] z1 ((p0 &&& (2147483647 : Int32)) % (5 : Int32))) z3 z5 z7 z9 T11.heap n0 Z11 Aq11 A11_b2 (by decide) (fun q => own_klen (own_mod5 _).1 (own_mod5 _).2 (by decide) q)) hZ (hw _ (List.mem_of_getElem? (i := 9) rfl)) (hw _ (List.mem_of_getElem? (i := 8) rfl)) (by decide) (by decide)) (g := (mkF m 149 #[.val (.int p0), .val (.int p1), .val (.int p2), .val (.int p3), .val (.int p4), .val (.int p5), .val (.int ((p0 &&& (2147483647 : Int32)) % (5 : Int32))), .val (.int z1), .val (.ref b2), .val (.ref r11)] [(.int (0 : Int32)), (.int ((p0 &&& (2147483647 : Int32)) % (5 : Int32))), (.int z1), (.ref b2), (.ref r11)])) rfl (by rw [hml]; rfl) (argsL := [(.ref r11), (.ref b2), (.int z1), (.int ((p0 &&& (2147483647 : Int32)) % (5 : Int32))), (.int (0 : Int32))]) (rest := []) (lenOf pd_285bI5bIIII29Z rfl) rfl (by show 2 * 0 + _ ≤ _; exact Nat.le_of_eq rfl) (hb hby at_149) (fun _ _ => ⟨rfl, rfl, (by decide : 2 + 0 ≤ _), (by decide : 9 + 0 ≤ _)⟩)
            dsimp only [Pt.U, Pt.locs, Pt.cells, Pt.slots] at X12 lz12 yz12 zz12 st12 hQ12
            subst lz12 yz12 zz12
            obtain ⟨rfl, N12q, e12⟩ := hQ12
            have N12 := Fr.app N11 N12q
            refine go st12 ?_
            show Run _ _ _ _ _ _ _ T12 (mkF m 152 #[.val (.int p0), .val (.int p1), .val (.int p2), .val (.int p3), .val (.int p4), .val (.int p5), .val (.int ((p0 &&& (2147483647 : Int32)) % (5 : Int32))), .val (.int z1), .val (.ref b2), .val (.ref r11)] [(.int (own_check (own_st [z3, z5, z7, z9] z1 ((p0 &&& (2147483647 : Int32)) % (5 : Int32))) [z3, z5, z7, z9] z1 ((p0 &&& (2147483647 : Int32)) % (5 : Int32)) (0 : Int32)))])
            refine go (T' := T12) (f' := (mkF m 155 #[.val (.int p0), .val (.int p1), .val (.int p2), .val (.int p3), .val (.int p4), .val (.int p5), .val (.int ((p0 &&& (2147483647 : Int32)) % (5 : Int32))), .val (.int z1), .val (.ref b2), .val (.ref r11)] [])) (by intro t k; exact XS.ifNo X12.here hx rfl (hb hby at_152) rfl ((if0 _ _).trans (feq (own_ok (own_mod5 _) (own_zz hz1 (own_mod5 _).1) (own_ks hz1 (own_mod5 _).1 hz3 hz5 hz7 hz9) (by decide) : ¬ ((own_check (own_st [z3, z5, z7, z9] z1 ((p0 &&& (2147483647 : Int32)) % (5 : Int32))) [z3, z5, z7, z9] z1 ((p0 &&& (2147483647 : Int32)) % (5 : Int32)) (0 : Int32)) = (0 : Int32)))).1) k) ?_
            show Run _ _ _ _ _ _ _ T12 (mkF m 155 #[.val (.int p0), .val (.int p1), .val (.int p2), .val (.int p3), .val (.int p4), .val (.int p5), .val (.int ((p0 &&& (2147483647 : Int32)) % (5 : Int32))), .val (.int z1), .val (.ref b2), .val (.ref r11)] [])
            refine go (T' := T12) (f' := (mkF m 157 #[.val (.int p0), .val (.int p1), .val (.int p2), .val (.int p3), .val (.int p4), .val (.int p5), .val (.int ((p0 &&& (2147483647 : Int32)) % (5 : Int32))), .val (.int z1), .val (.ref b2), .val (.ref r11)] [(.ref r11)])) (by intro t k; exact XS.aload X12.here hx rfl (hb hby at_155) rfl rfl k) ?_
            show Run _ _ _ _ _ _ _ T12 (mkF m 157 #[.val (.int p0), .val (.int p1), .val (.int p2), .val (.int p3), .val (.int p4), .val (.int p5), .val (.int ((p0 &&& (2147483647 : Int32)) % (5 : Int32))), .val (.int z1), .val (.ref b2), .val (.ref r11)] [(.ref r11)])
            refine go (T' := T12) (f' := (mkF m 159 #[.val (.int p0), .val (.int p1), .val (.int p2), .val (.int p3), .val (.int p4), .val (.int p5), .val (.int ((p0 &&& (2147483647 : Int32)) % (5 : Int32))), .val (.int z1), .val (.ref b2), .val (.ref r11)] [(.ref b2), (.ref r11)])) (by intro t k; exact XS.aload X12.here hx rfl (hb hby at_157) rfl rfl k) ?_
            show Run _ _ _ _ _ _ _ T12 (mkF m 159 #[.val (.int p0), .val (.int p1), .val (.int p2), .val (.int p3), .val (.int p4), .val (.int p5), .val (.int ((p0 &&& (2147483647 : Int32)) % (5 : Int32))), .val (.int z1), .val (.ref b2), .val (.ref r11)] [(.ref b2), (.ref r11)])
            refine go (T' := T12) (f' := (mkF m 161 #[.val (.int p0), .val (.int p1), .val (.int p2), .val (.int p3), .val (.int p4), .val (.int p5), .val (.int ((p0 &&& (2147483647 : Int32)) % (5 : Int32))), .val (.int z1), .val (.ref b2), .val (.ref r11)] [(.int z1), (.ref b2), (.ref r11)])) (by intro t k; exact XS.iload X12.here hx rfl (hb hby at_159) rfl k) ?_
            show Run _ _ _ _ _ _ _ T12 (mkF m 161 #[.val (.int p0), .val (.int p1), .val (.int p2), .val (.int p3), .val (.int p4), .val (.int p5), .val (.int ((p0 &&& (2147483647 : Int32)) % (5 : Int32))), .val (.int z1), .val (.ref b2), .val (.ref r11)] [(.int z1), (.ref b2), (.ref r11)])
            refine go (T' := T12) (f' := (mkF m 163 #[.val (.int p0), .val (.int p1), .val (.int p2), .val (.int p3), .val (.int p4), .val (.int p5), .val (.int ((p0 &&& (2147483647 : Int32)) % (5 : Int32))), .val (.int z1), .val (.ref b2), .val (.ref r11)] [(.int ((p0 &&& (2147483647 : Int32)) % (5 : Int32))), (.int z1), (.ref b2), (.ref r11)])) (by intro t k; exact XS.iload X12.here hx rfl (hb hby at_161) rfl k) ?_
            show Run _ _ _ _ _ _ _ T12 (mkF m 163 #[.val (.int p0), .val (.int p1), .val (.int p2), .val (.int p3), .val (.int p4), .val (.int p5), .val (.int ((p0 &&& (2147483647 : Int32)) % (5 : Int32))), .val (.int z1), .val (.ref b2), .val (.ref r11)] [(.int ((p0 &&& (2147483647 : Int32)) % (5 : Int32))), (.int z1), (.ref b2), (.ref r11)])
            refine go (T' := T12) (f' := (mkF m 164 #[.val (.int p0), .val (.int p1), .val (.int p2), .val (.int p3), .val (.int p4), .val (.int p5), .val (.int ((p0 &&& (2147483647 : Int32)) % (5 : Int32))), .val (.int z1), .val (.ref b2), .val (.ref r11)] [(.int (1 : Int32)), (.int ((p0 &&& (2147483647 : Int32)) % (5 : Int32))), (.int z1), (.ref b2), (.ref r11)])) (by intro t k; exact XS.iconst X12.here hx rfl (hb hby at_163) k) ?_
            show Run _ _ _ _ _ _ _ T12 (mkF m 164 #[.val (.int p0), .val (.int p1), .val (.int p2), .val (.int p3), .val (.int p4), .val (.int p5), .val (.int ((p0 &&& (2147483647 : Int32)) % (5 : Int32))), .val (.int z1), .val (.ref b2), .val (.ref r11)] [(.int (1 : Int32)), (.int ((p0 &&& (2147483647 : Int32)) % (5 : Int32))), (.int z1), (.ref b2), (.ref r11)])
            obtain ⟨_, _, ⟨T13, Lz13, kz13, nz13⟩, -, X13, ⟨Lc13, hQ13, lz13, yz13, zz13⟩, st13⟩ := Jvm.LawKit.callS X12 hx (y := (⟨"com/example/settle/settle/model/IntArraysStartsPinLaw", "check", "([I[IIII)Z"⟩ : MethodName)) hown (mvT hZ (hw _ (List.mem_of_getElem? (i := 6) rfl))) (mvT hZ (hw _ (List.mem_of_getElem? (i := 7) rfl))) (mvT hZ (hw _ (List.mem_of_getElem? (i := 8) rfl))) (mvT hZ (hw _ (List.mem_of_getElem? (i := 9) rfl))) (by decide) (backOf (W := 0) (rm2 l Z aw hw [] r11 b2 z1 ((p0 &&& (2147483647 : Int32)) % (5 : Int32)) (1 : Int32) (own_st [z3, z5, z7, z9] z1 ((p0 &&& (2147483647 : Int32)) % (5 : Int32))) z3 z5 z7 z9 T11.heap n0 Z11 Aq11 A11_b2 (by decide) (fun q => own_klen (own_mod5 _).1 (own_mod5 _).2 (by decide) q)) hZ (hw _ (List.mem_of_getElem? (i := 9) rfl)) (hw _ (List.mem_of_getElem? (i := 8) rfl)) (by decide) (by decide)) (g := (mkF m 164 #[.val (.int p0), .val (.int p1), .val (.int p2), .val (.int p3), .val (.int p4), .val (.int p5), .val (.int ((p0 &&& (2147483647 : Int32)) % (5 : Int32))), .val (.int z1), .val (.ref b2), .val (.ref r11)] [(.int (1 : Int32)), (.int ((p0 &&& (2147483647 : Int32)) % (5 : Int32))), (.int z1), (.ref b2), (.ref r11)])) rfl (by rw [hml]; rfl) (argsL := [(.ref r11), (.ref b2), (.int z1), (.int ((p0 &&& (2147483647 : Int32)) % (5 : Int32))), (.int (1 : Int32))]) (rest := []) (lenOf pd_285bI5bIIII29Z rfl) rfl (by show 2 * 0 + _ ≤ _; exact Nat.le_of_eq rfl) (hb hby at_164) (fun _ _ => ⟨rfl, e12, (by decide : 2 + 0 ≤ _), (by decide : 9 + 0 ≤ _)⟩)
            dsimp only [Pt.U, Pt.locs, Pt.cells, Pt.slots] at X13 lz13 yz13 zz13 st13 hQ13
            subst lz13 yz13 zz13
            obtain ⟨rfl, N13q, e13⟩ := hQ13
            have N13 := Fr.app N12 N13q
            refine go st13 ?_
            show Run _ _ _ _ _ _ _ T13 (mkF m 167 #[.val (.int p0), .val (.int p1), .val (.int p2), .val (.int p3), .val (.int p4), .val (.int p5), .val (.int ((p0 &&& (2147483647 : Int32)) % (5 : Int32))), .val (.int z1), .val (.ref b2), .val (.ref r11)] [(.int (own_check (own_st [z3, z5, z7, z9] z1 ((p0 &&& (2147483647 : Int32)) % (5 : Int32))) [z3, z5, z7, z9] z1 ((p0 &&& (2147483647 : Int32)) % (5 : Int32)) (1 : Int32)))])
            refine go (T' := T13) (f' := (mkF m 170 #[.val (.int p0), .val (.int p1), .val (.int p2), .val (.int p3), .val (.int p4), .val (.int p5), .val (.int ((p0 &&& (2147483647 : Int32)) % (5 : Int32))), .val (.int z1), .val (.ref b2), .val (.ref r11)] [])) (by intro t k; exact XS.ifNo X13.here hx rfl (hb hby at_167) rfl ((if0 _ _).trans (feq (own_ok (own_mod5 _) (own_zz hz1 (own_mod5 _).1) (own_ks hz1 (own_mod5 _).1 hz3 hz5 hz7 hz9) (by decide) : ¬ ((own_check (own_st [z3, z5, z7, z9] z1 ((p0 &&& (2147483647 : Int32)) % (5 : Int32))) [z3, z5, z7, z9] z1 ((p0 &&& (2147483647 : Int32)) % (5 : Int32)) (1 : Int32)) = (0 : Int32)))).1) k) ?_
            show Run _ _ _ _ _ _ _ T13 (mkF m 170 #[.val (.int p0), .val (.int p1), .val (.int p2), .val (.int p3), .val (.int p4), .val (.int p5), .val (.int ((p0 &&& (2147483647 : Int32)) % (5 : Int32))), .val (.int z1), .val (.ref b2), .val (.ref r11)] [])
            refine go (T' := T13) (f' := (mkF m 172 #[.val (.int p0), .val (.int p1), .val (.int p2), .val (.int p3), .val (.int p4), .val (.int p5), .val (.int ((p0 &&& (2147483647 : Int32)) % (5 : Int32))), .val (.int z1), .val (.ref b2), .val (.ref r11)] [(.ref r11)])) (by intro t k; exact XS.aload X13.here hx rfl (hb hby at_170) rfl rfl k) ?_
            show Run _ _ _ _ _ _ _ T13 (mkF m 172 #[.val (.int p0), .val (.int p1), .val (.int p2), .val (.int p3), .val (.int p4), .val (.int p5), .val (.int ((p0 &&& (2147483647 : Int32)) % (5 : Int32))), .val (.int z1), .val (.ref b2), .val (.ref r11)] [(.ref r11)])
            refine go (T' := T13) (f' := (mkF m 174 #[.val (.int p0), .val (.int p1), .val (.int p2), .val (.int p3), .val (.int p4), .val (.int p5), .val (.int ((p0 &&& (2147483647 : Int32)) % (5 : Int32))), .val (.int z1), .val (.ref b2), .val (.ref r11)] [(.ref b2), (.ref r11)])) (by intro t k; exact XS.aload X13.here hx rfl (hb hby at_172) rfl rfl k) ?_
            show Run _ _ _ _ _ _ _ T13 (mkF m 174 #[.val (.int p0), .val (.int p1), .val (.int p2), .val (.int p3), .val (.int p4), .val (.int p5), .val (.int ((p0 &&& (2147483647 : Int32)) % (5 : Int32))), .val (.int z1), .val (.ref b2), .val (.ref r11)] [(.ref b2), (.ref r11)])
            refine go (T' := T13) (f' := (mkF m 176 #[.val (.int p0), .val (.int p1), .val (.int p2), .val (.int p3), .val (.int p4), .val (.int p5), .val (.int ((p0 &&& (2147483647 : Int32)) % (5 : Int32))), .val (.int z1), .val (.ref b2), .val (.ref r11)] [(.int z1), (.ref b2), (.ref r11)])) (by intro t k; exact XS.iload X13.here hx rfl (hb hby at_174) rfl k) ?_
            show Run _ _ _ _ _ _ _ T13 (mkF m 176 #[.val (.int p0), .val (.int p1), .val (.int p2), .val (.int p3), .val (.int p4), .val (.int p5), .val (.int ((p0 &&& (2147483647 : Int32)) % (5 : Int32))), .val (.int z1), .val (.ref b2), .val (.ref r11)] [(.int z1), (.ref b2), (.ref r11)])
            refine go (T' := T13) (f' := (mkF m 178 #[.val (.int p0), .val (.int p1), .val (.int p2), .val (.int p3), .val (.int p4), .val (.int p5), .val (.int ((p0 &&& (2147483647 : Int32)) % (5 : Int32))), .val (.int z1), .val (.ref b2), .val (.ref r11)] [(.int ((p0 &&& (2147483647 : Int32)) % (5 : Int32))), (.int z1), (.ref b2), (.ref r11)])) (by intro t k; exact XS.iload X13.here hx rfl (hb hby at_176) rfl k) ?_
            show Run _ _ _ _ _ _ _ T13 (mkF m 178 #[.val (.int p0), .val (.int p1), .val (.int p2), .val (.int p3), .val (.int p4), .val (.int p5), .val (.int ((p0 &&& (2147483647 : Int32)) % (5 : Int32))), .val (.int z1), .val (.ref b2), .val (.ref r11)] [(.int ((p0 &&& (2147483647 : Int32)) % (5 : Int32))), (.int z1), (.ref b2), (.ref r11)])
            refine go (T' := T13) (f' := (mkF m 179 #[.val (.int p0), .val (.int p1), .val (.int p2), .val (.int p3), .val (.int p4), .val (.int p5), .val (.int ((p0 &&& (2147483647 : Int32)) % (5 : Int32))), .val (.int z1), .val (.ref b2), .val (.ref r11)] [(.int (2 : Int32)), (.int ((p0 &&& (2147483647 : Int32)) % (5 : Int32))), (.int z1), (.ref b2), (.ref r11)])) (by intro t k; exact XS.iconst X13.here hx rfl (hb hby at_178) k) ?_
            show Run _ _ _ _ _ _ _ T13 (mkF m 179 #[.val (.int p0), .val (.int p1), .val (.int p2), .val (.int p3), .val (.int p4), .val (.int p5), .val (.int ((p0 &&& (2147483647 : Int32)) % (5 : Int32))), .val (.int z1), .val (.ref b2), .val (.ref r11)] [(.int (2 : Int32)), (.int ((p0 &&& (2147483647 : Int32)) % (5 : Int32))), (.int z1), (.ref b2), (.ref r11)])
            obtain ⟨_, _, ⟨T14, Lz14, kz14, nz14⟩, -, X14, ⟨Lc14, hQ14, lz14, yz14, zz14⟩, st14⟩ := Jvm.LawKit.callS X13 hx (y := (⟨"com/example/settle/settle/model/IntArraysStartsPinLaw", "check", "([I[IIII)Z"⟩ : MethodName)) hown (mvT hZ (hw _ (List.mem_of_getElem? (i := 6) rfl))) (mvT hZ (hw _ (List.mem_of_getElem? (i := 7) rfl))) (mvT hZ (hw _ (List.mem_of_getElem? (i := 8) rfl))) (mvT hZ (hw _ (List.mem_of_getElem? (i := 9) rfl))) (by decide) (backOf (W := 0) (rm2 l Z aw hw [] r11 b2 z1 ((p0 &&& (2147483647 : Int32)) % (5 : Int32)) (2 : Int32) (own_st [z3, z5, z7, z9] z1 ((p0 &&& (2147483647 : Int32)) % (5 : Int32))) z3 z5 z7 z9 T11.heap n0 Z11 Aq11 A11_b2 (by decide) (fun q => own_klen (own_mod5 _).1 (own_mod5 _).2 (by decide) q)) hZ (hw _ (List.mem_of_getElem? (i := 9) rfl)) (hw _ (List.mem_of_getElem? (i := 8) rfl)) (by decide) (by decide)) (g := (mkF m 179 #[.val (.int p0), .val (.int p1), .val (.int p2), .val (.int p3), .val (.int p4), .val (.int p5), .val (.int ((p0 &&& (2147483647 : Int32)) % (5 : Int32))), .val (.int z1), .val (.ref b2), .val (.ref r11)] [(.int (2 : Int32)), (.int ((p0 &&& (2147483647 : Int32)) % (5 : Int32))), (.int z1), (.ref b2), (.ref r11)])) rfl (by rw [hml]; rfl) (argsL := [(.ref r11), (.ref b2), (.int z1), (.int ((p0 &&& (2147483647 : Int32)) % (5 : Int32))), (.int (2 : Int32))]) (rest := []) (lenOf pd_285bI5bIIII29Z rfl) rfl (by show 2 * 0 + _ ≤ _; exact Nat.le_of_eq rfl) (hb hby at_179) (fun _ _ => ⟨rfl, e13, (by decide : 2 + 0 ≤ _), (by decide : 9 + 0 ≤ _)⟩)
            dsimp only [Pt.U, Pt.locs, Pt.cells, Pt.slots] at X14 lz14 yz14 zz14 st14 hQ14
            subst lz14 yz14 zz14
            obtain ⟨rfl, N14q, e14⟩ := hQ14
            have N14 := Fr.app N13 N14q
            refine go st14 ?_
            show Run _ _ _ _ _ _ _ T14 (mkF m 182 #[.val (.int p0), .val (.int p1), .val (.int p2), .val (.int p3), .val (.int p4), .val (.int p5), .val (.int ((p0 &&& (2147483647 : Int32)) % (5 : Int32))), .val (.int z1), .val (.ref b2), .val (.ref r11)] [(.int (own_check (own_st [z3, z5, z7, z9] z1 ((p0 &&& (2147483647 : Int32)) % (5 : Int32))) [z3, z5, z7, z9] z1 ((p0 &&& (2147483647 : Int32)) % (5 : Int32)) (2 : Int32)))])
            refine go (T' := T14) (f' := (mkF m 185 #[.val (.int p0), .val (.int p1), .val (.int p2), .val (.int p3), .val (.int p4), .val (.int p5), .val (.int ((p0 &&& (2147483647 : Int32)) % (5 : Int32))), .val (.int z1), .val (.ref b2), .val (.ref r11)] [])) (by intro t k; exact XS.ifNo X14.here hx rfl (hb hby at_182) rfl ((if0 _ _).trans (feq (own_ok (own_mod5 _) (own_zz hz1 (own_mod5 _).1) (own_ks hz1 (own_mod5 _).1 hz3 hz5 hz7 hz9) (by decide) : ¬ ((own_check (own_st [z3, z5, z7, z9] z1 ((p0 &&& (2147483647 : Int32)) % (5 : Int32))) [z3, z5, z7, z9] z1 ((p0 &&& (2147483647 : Int32)) % (5 : Int32)) (2 : Int32)) = (0 : Int32)))).1) k) ?_
            show Run _ _ _ _ _ _ _ T14 (mkF m 185 #[.val (.int p0), .val (.int p1), .val (.int p2), .val (.int p3), .val (.int p4), .val (.int p5), .val (.int ((p0 &&& (2147483647 : Int32)) % (5 : Int32))), .val (.int z1), .val (.ref b2), .val (.ref r11)] [])
            refine go (T' := T14) (f' := (mkF m 187 #[.val (.int p0), .val (.int p1), .val (.int p2), .val (.int p3), .val (.int p4), .val (.int p5), .val (.int ((p0 &&& (2147483647 : Int32)) % (5 : Int32))), .val (.int z1), .val (.ref b2), .val (.ref r11)] [(.ref r11)])) (by intro t k; exact XS.aload X14.here hx rfl (hb hby at_185) rfl rfl k) ?_
            show Run _ _ _ _ _ _ _ T14 (mkF m 187 #[.val (.int p0), .val (.int p1), .val (.int p2), .val (.int p3), .val (.int p4), .val (.int p5), .val (.int ((p0 &&& (2147483647 : Int32)) % (5 : Int32))), .val (.int z1), .val (.ref b2), .val (.ref r11)] [(.ref r11)])
            refine go (T' := T14) (f' := (mkF m 189 #[.val (.int p0), .val (.int p1), .val (.int p2), .val (.int p3), .val (.int p4), .val (.int p5), .val (.int ((p0 &&& (2147483647 : Int32)) % (5 : Int32))), .val (.int z1), .val (.ref b2), .val (.ref r11)] [(.ref b2), (.ref r11)])) (by intro t k; exact XS.aload X14.here hx rfl (hb hby at_187) rfl rfl k) ?_
            show Run _ _ _ _ _ _ _ T14 (mkF m 189 #[.val (.int p0), .val (.int p1), .val (.int p2), .val (.int p3), .val (.int p4), .val (.int p5), .val (.int ((p0 &&& (2147483647 : Int32)) % (5 : Int32))), .val (.int z1), .val (.ref b2), .val (.ref r11)] [(.ref b2), (.ref r11)])
            refine go (T' := T14) (f' := (mkF m 191 #[.val (.int p0), .val (.int p1), .val (.int p2), .val (.int p3), .val (.int p4), .val (.int p5), .val (.int ((p0 &&& (2147483647 : Int32)) % (5 : Int32))), .val (.int z1), .val (.ref b2), .val (.ref r11)] [(.int z1), (.ref b2), (.ref r11)])) (by intro t k; exact XS.iload X14.here hx rfl (hb hby at_189) rfl k) ?_
            show Run _ _ _ _ _ _ _ T14 (mkF m 191 #[.val (.int p0), .val (.int p1), .val (.int p2), .val (.int p3), .val (.int p4), .val (.int p5), .val (.int ((p0 &&& (2147483647 : Int32)) % (5 : Int32))), .val (.int z1), .val (.ref b2), .val (.ref r11)] [(.int z1), (.ref b2), (.ref r11)])
            refine go (T' := T14) (f' := (mkF m 193 #[.val (.int p0), .val (.int p1), .val (.int p2), .val (.int p3), .val (.int p4), .val (.int p5), .val (.int ((p0 &&& (2147483647 : Int32)) % (5 : Int32))), .val (.int z1), .val (.ref b2), .val (.ref r11)] [(.int ((p0 &&& (2147483647 : Int32)) % (5 : Int32))), (.int z1), (.ref b2), (.ref r11)])) (by intro t k; exact XS.iload X14.here hx rfl (hb hby at_191) rfl k) ?_
            show Run _ _ _ _ _ _ _ T14 (mkF m 193 #[.val (.int p0), .val (.int p1), .val (.int p2), .val (.int p3), .val (.int p4), .val (.int p5), .val (.int ((p0 &&& (2147483647 : Int32)) % (5 : Int32))), .val (.int z1), .val (.ref b2), .val (.ref r11)] [(.int ((p0 &&& (2147483647 : Int32)) % (5 : Int32))), (.int z1), (.ref b2), (.ref r11)])
            refine go (T' := T14) (f' := (mkF m 194 #[.val (.int p0), .val (.int p1), .val (.int p2), .val (.int p3), .val (.int p4), .val (.int p5), .val (.int ((p0 &&& (2147483647 : Int32)) % (5 : Int32))), .val (.int z1), .val (.ref b2), .val (.ref r11)] [(.int (3 : Int32)), (.int ((p0 &&& (2147483647 : Int32)) % (5 : Int32))), (.int z1), (.ref b2), (.ref r11)])) (by intro t k; exact XS.iconst X14.here hx rfl (hb hby at_193) k) ?_
            show Run _ _ _ _ _ _ _ T14 (mkF m 194 #[.val (.int p0), .val (.int p1), .val (.int p2), .val (.int p3), .val (.int p4), .val (.int p5), .val (.int ((p0 &&& (2147483647 : Int32)) % (5 : Int32))), .val (.int z1), .val (.ref b2), .val (.ref r11)] [(.int (3 : Int32)), (.int ((p0 &&& (2147483647 : Int32)) % (5 : Int32))), (.int z1), (.ref b2), (.ref r11)])
            obtain ⟨_, _, ⟨T15, Lz15, kz15, nz15⟩, -, X15, ⟨Lc15, hQ15, lz15, yz15, zz15⟩, st15⟩ := Jvm.LawKit.callS X14 hx (y := (⟨"com/example/settle/settle/model/IntArraysStartsPinLaw", "check", "([I[IIII)Z"⟩ : MethodName)) hown (mvT hZ (hw _ (List.mem_of_getElem? (i := 6) rfl))) (mvT hZ (hw _ (List.mem_of_getElem? (i := 7) rfl))) (mvT hZ (hw _ (List.mem_of_getElem? (i := 8) rfl))) (mvT hZ (hw _ (List.mem_of_getElem? (i := 9) rfl))) (by decide) (backOf (W := 0) (rm2 l Z aw hw [] r11 b2 z1 ((p0 &&& (2147483647 : Int32)) % (5 : Int32)) (3 : Int32) (own_st [z3, z5, z7, z9] z1 ((p0 &&& (2147483647 : Int32)) % (5 : Int32))) z3 z5 z7 z9 T11.heap n0 Z11 Aq11 A11_b2 (by decide) (fun q => own_klen (own_mod5 _).1 (own_mod5 _).2 (by decide) q)) hZ (hw _ (List.mem_of_getElem? (i := 9) rfl)) (hw _ (List.mem_of_getElem? (i := 8) rfl)) (by decide) (by decide)) (g := (mkF m 194 #[.val (.int p0), .val (.int p1), .val (.int p2), .val (.int p3), .val (.int p4), .val (.int p5), .val (.int ((p0 &&& (2147483647 : Int32)) % (5 : Int32))), .val (.int z1), .val (.ref b2), .val (.ref r11)] [(.int (3 : Int32)), (.int ((p0 &&& (2147483647 : Int32)) % (5 : Int32))), (.int z1), (.ref b2), (.ref r11)])) rfl (by rw [hml]; rfl) (argsL := [(.ref r11), (.ref b2), (.int z1), (.int ((p0 &&& (2147483647 : Int32)) % (5 : Int32))), (.int (3 : Int32))]) (rest := []) (lenOf pd_285bI5bIIII29Z rfl) rfl (by show 2 * 0 + _ ≤ _; exact Nat.le_of_eq rfl) (hb hby at_194) (fun _ _ => ⟨rfl, e14, (by decide : 2 + 0 ≤ _), (by decide : 9 + 0 ≤ _)⟩)
            dsimp only [Pt.U, Pt.locs, Pt.cells, Pt.slots] at X15 lz15 yz15 zz15 st15 hQ15
            subst lz15 yz15 zz15
            obtain ⟨rfl, N15q, e15⟩ := hQ15
            have N15 := Fr.app N14 N15q
            refine go st15 ?_
            show Run _ _ _ _ _ _ _ T15 (mkF m 197 #[.val (.int p0), .val (.int p1), .val (.int p2), .val (.int p3), .val (.int p4), .val (.int p5), .val (.int ((p0 &&& (2147483647 : Int32)) % (5 : Int32))), .val (.int z1), .val (.ref b2), .val (.ref r11)] [(.int (own_check (own_st [z3, z5, z7, z9] z1 ((p0 &&& (2147483647 : Int32)) % (5 : Int32))) [z3, z5, z7, z9] z1 ((p0 &&& (2147483647 : Int32)) % (5 : Int32)) (3 : Int32)))])
            refine go (T' := T15) (f' := (mkF m 200 #[.val (.int p0), .val (.int p1), .val (.int p2), .val (.int p3), .val (.int p4), .val (.int p5), .val (.int ((p0 &&& (2147483647 : Int32)) % (5 : Int32))), .val (.int z1), .val (.ref b2), .val (.ref r11)] [])) (by intro t k; exact XS.ifNo X15.here hx rfl (hb hby at_197) rfl ((if0 _ _).trans (feq (own_ok (own_mod5 _) (own_zz hz1 (own_mod5 _).1) (own_ks hz1 (own_mod5 _).1 hz3 hz5 hz7 hz9) (by decide) : ¬ ((own_check (own_st [z3, z5, z7, z9] z1 ((p0 &&& (2147483647 : Int32)) % (5 : Int32))) [z3, z5, z7, z9] z1 ((p0 &&& (2147483647 : Int32)) % (5 : Int32)) (3 : Int32)) = (0 : Int32)))).1) k) ?_
            show Run _ _ _ _ _ _ _ T15 (mkF m 200 #[.val (.int p0), .val (.int p1), .val (.int p2), .val (.int p3), .val (.int p4), .val (.int p5), .val (.int ((p0 &&& (2147483647 : Int32)) % (5 : Int32))), .val (.int z1), .val (.ref b2), .val (.ref r11)] [])
            refine go (T' := T15) (f' := (mkF m 202 #[.val (.int p0), .val (.int p1), .val (.int p2), .val (.int p3), .val (.int p4), .val (.int p5), .val (.int ((p0 &&& (2147483647 : Int32)) % (5 : Int32))), .val (.int z1), .val (.ref b2), .val (.ref r11)] [(.ref r11)])) (by intro t k; exact XS.aload X15.here hx rfl (hb hby at_200) rfl rfl k) ?_
            show Run _ _ _ _ _ _ _ T15 (mkF m 202 #[.val (.int p0), .val (.int p1), .val (.int p2), .val (.int p3), .val (.int p4), .val (.int p5), .val (.int ((p0 &&& (2147483647 : Int32)) % (5 : Int32))), .val (.int z1), .val (.ref b2), .val (.ref r11)] [(.ref r11)])
            refine go (T' := T15) (f' := (mkF m 204 #[.val (.int p0), .val (.int p1), .val (.int p2), .val (.int p3), .val (.int p4), .val (.int p5), .val (.int ((p0 &&& (2147483647 : Int32)) % (5 : Int32))), .val (.int z1), .val (.ref b2), .val (.ref r11)] [(.ref b2), (.ref r11)])) (by intro t k; exact XS.aload X15.here hx rfl (hb hby at_202) rfl rfl k) ?_
            show Run _ _ _ _ _ _ _ T15 (mkF m 204 #[.val (.int p0), .val (.int p1), .val (.int p2), .val (.int p3), .val (.int p4), .val (.int p5), .val (.int ((p0 &&& (2147483647 : Int32)) % (5 : Int32))), .val (.int z1), .val (.ref b2), .val (.ref r11)] [(.ref b2), (.ref r11)])
            refine go (T' := T15) (f' := (mkF m 206 #[.val (.int p0), .val (.int p1), .val (.int p2), .val (.int p3), .val (.int p4), .val (.int p5), .val (.int ((p0 &&& (2147483647 : Int32)) % (5 : Int32))), .val (.int z1), .val (.ref b2), .val (.ref r11)] [(.int z1), (.ref b2), (.ref r11)])) (by intro t k; exact XS.iload X15.here hx rfl (hb hby at_204) rfl k) ?_
            show Run _ _ _ _ _ _ _ T15 (mkF m 206 #[.val (.int p0), .val (.int p1), .val (.int p2), .val (.int p3), .val (.int p4), .val (.int p5), .val (.int ((p0 &&& (2147483647 : Int32)) % (5 : Int32))), .val (.int z1), .val (.ref b2), .val (.ref r11)] [(.int z1), (.ref b2), (.ref r11)])
            refine go (T' := T15) (f' := (mkF m 208 #[.val (.int p0), .val (.int p1), .val (.int p2), .val (.int p3), .val (.int p4), .val (.int p5), .val (.int ((p0 &&& (2147483647 : Int32)) % (5 : Int32))), .val (.int z1), .val (.ref b2), .val (.ref r11)] [(.int ((p0 &&& (2147483647 : Int32)) % (5 : Int32))), (.int z1), (.ref b2), (.ref r11)])) (by intro t k; exact XS.iload X15.here hx rfl (hb hby at_206) rfl k) ?_
            show Run _ _ _ _ _ _ _ T15 (mkF m 208 #[.val (.int p0), .val (.int p1), .val (.int p2), .val (.int p3), .val (.int p4), .val (.int p5), .val (.int ((p0 &&& (2147483647 : Int32)) % (5 : Int32))), .val (.int z1), .val (.ref b2), .val (.ref r11)] [(.int ((p0 &&& (2147483647 : Int32)) % (5 : Int32))), (.int z1), (.ref b2), (.ref r11)])
            refine go (T' := T15) (f' := (mkF m 209 #[.val (.int p0), .val (.int p1), .val (.int p2), .val (.int p3), .val (.int p4), .val (.int p5), .val (.int ((p0 &&& (2147483647 : Int32)) % (5 : Int32))), .val (.int z1), .val (.ref b2), .val (.ref r11)] [(.int (4 : Int32)), (.int ((p0 &&& (2147483647 : Int32)) % (5 : Int32))), (.int z1), (.ref b2), (.ref r11)])) (by intro t k; exact XS.iconst X15.here hx rfl (hb hby at_208) k) ?_
            show Run _ _ _ _ _ _ _ T15 (mkF m 209 #[.val (.int p0), .val (.int p1), .val (.int p2), .val (.int p3), .val (.int p4), .val (.int p5), .val (.int ((p0 &&& (2147483647 : Int32)) % (5 : Int32))), .val (.int z1), .val (.ref b2), .val (.ref r11)] [(.int (4 : Int32)), (.int ((p0 &&& (2147483647 : Int32)) % (5 : Int32))), (.int z1), (.ref b2), (.ref r11)])
            obtain ⟨_, _, ⟨T16, Lz16, kz16, nz16⟩, -, X16, ⟨Lc16, hQ16, lz16, yz16, zz16⟩, st16⟩ := Jvm.LawKit.callS X15 hx (y := (⟨"com/example/settle/settle/model/IntArraysStartsPinLaw", "check", "([I[IIII)Z"⟩ : MethodName)) hown (mvT hZ (hw _ (List.mem_of_getElem? (i := 6) rfl))) (mvT hZ (hw _ (List.mem_of_getElem? (i := 7) rfl))) (mvT hZ (hw _ (List.mem_of_getElem? (i := 8) rfl))) (mvT hZ (hw _ (List.mem_of_getElem? (i := 9) rfl))) (by decide) (backOf (W := 0) (rm2 l Z aw hw [] r11 b2 z1 ((p0 &&& (2147483647 : Int32)) % (5 : Int32)) (4 : Int32) (own_st [z3, z5, z7, z9] z1 ((p0 &&& (2147483647 : Int32)) % (5 : Int32))) z3 z5 z7 z9 T11.heap n0 Z11 Aq11 A11_b2 (by decide) (fun q => own_klen (own_mod5 _).1 (own_mod5 _).2 (by decide) q)) hZ (hw _ (List.mem_of_getElem? (i := 9) rfl)) (hw _ (List.mem_of_getElem? (i := 8) rfl)) (by decide) (by decide)) (g := (mkF m 209 #[.val (.int p0), .val (.int p1), .val (.int p2), .val (.int p3), .val (.int p4), .val (.int p5), .val (.int ((p0 &&& (2147483647 : Int32)) % (5 : Int32))), .val (.int z1), .val (.ref b2), .val (.ref r11)] [(.int (4 : Int32)), (.int ((p0 &&& (2147483647 : Int32)) % (5 : Int32))), (.int z1), (.ref b2), (.ref r11)])) rfl (by rw [hml]; rfl) (argsL := [(.ref r11), (.ref b2), (.int z1), (.int ((p0 &&& (2147483647 : Int32)) % (5 : Int32))), (.int (4 : Int32))]) (rest := []) (lenOf pd_285bI5bIIII29Z rfl) rfl (by show 2 * 0 + _ ≤ _; exact Nat.le_of_eq rfl) (hb hby at_209) (fun _ _ => ⟨rfl, e15, (by decide : 2 + 0 ≤ _), (by decide : 9 + 0 ≤ _)⟩)
            dsimp only [Pt.U, Pt.locs, Pt.cells, Pt.slots] at X16 lz16 yz16 zz16 st16 hQ16
            subst lz16 yz16 zz16
            obtain ⟨rfl, N16q, e16⟩ := hQ16
            have N16 := Fr.app N15 N16q
            refine go st16 ?_
            show Run _ _ _ _ _ _ _ T16 (mkF m 212 #[.val (.int p0), .val (.int p1), .val (.int p2), .val (.int p3), .val (.int p4), .val (.int p5), .val (.int ((p0 &&& (2147483647 : Int32)) % (5 : Int32))), .val (.int z1), .val (.ref b2), .val (.ref r11)] [(.int (own_check (own_st [z3, z5, z7, z9] z1 ((p0 &&& (2147483647 : Int32)) % (5 : Int32))) [z3, z5, z7, z9] z1 ((p0 &&& (2147483647 : Int32)) % (5 : Int32)) (4 : Int32)))])
            refine go (T' := T16) (f' := (mkF m 215 #[.val (.int p0), .val (.int p1), .val (.int p2), .val (.int p3), .val (.int p4), .val (.int p5), .val (.int ((p0 &&& (2147483647 : Int32)) % (5 : Int32))), .val (.int z1), .val (.ref b2), .val (.ref r11)] [])) (by intro t k; exact XS.ifNo X16.here hx rfl (hb hby at_212) rfl ((if0 _ _).trans (feq (own_ok (own_mod5 _) (own_zz hz1 (own_mod5 _).1) (own_ks hz1 (own_mod5 _).1 hz3 hz5 hz7 hz9) (by decide) : ¬ ((own_check (own_st [z3, z5, z7, z9] z1 ((p0 &&& (2147483647 : Int32)) % (5 : Int32))) [z3, z5, z7, z9] z1 ((p0 &&& (2147483647 : Int32)) % (5 : Int32)) (4 : Int32)) = (0 : Int32)))).1) k) ?_
            show Run _ _ _ _ _ _ _ T16 (mkF m 215 #[.val (.int p0), .val (.int p1), .val (.int p2), .val (.int p3), .val (.int p4), .val (.int p5), .val (.int ((p0 &&& (2147483647 : Int32)) % (5 : Int32))), .val (.int z1), .val (.ref b2), .val (.ref r11)] [])
            refine go (T' := T16) (f' := (mkF m 216 #[.val (.int p0), .val (.int p1), .val (.int p2), .val (.int p3), .val (.int p4), .val (.int p5), .val (.int ((p0 &&& (2147483647 : Int32)) % (5 : Int32))), .val (.int z1), .val (.ref b2), .val (.ref r11)] [(.int (1 : Int32))])) (by intro t k; exact XS.iconst X16.here hx rfl (hb hby at_215) k) ?_
            show Run _ _ _ _ _ _ _ T16 (mkF m 216 #[.val (.int p0), .val (.int p1), .val (.int p2), .val (.int p3), .val (.int p4), .val (.int p5), .val (.int ((p0 &&& (2147483647 : Int32)) % (5 : Int32))), .val (.int z1), .val (.ref b2), .val (.ref r11)] [(.int (1 : Int32))])
            refine go (T' := T16) (f' := (mkF m 220 #[.val (.int p0), .val (.int p1), .val (.int p2), .val (.int p3), .val (.int p4), .val (.int p5), .val (.int ((p0 &&& (2147483647 : Int32)) % (5 : Int32))), .val (.int z1), .val (.ref b2), .val (.ref r11)] [(.int (1 : Int32))])) (by intro t k; exact XS.goto X16.here hx rfl (pc0 := 216) (pc' := 220) rfl (hb hby at_216) (by decide) (by decide) k) ?_
            show Run _ _ _ _ _ _ _ T16 (mkF m 220 #[.val (.int p0), .val (.int p1), .val (.int p2), .val (.int p3), .val (.int p4), .val (.int p5), .val (.int ((p0 &&& (2147483647 : Int32)) % (5 : Int32))), .val (.int z1), .val (.ref b2), .val (.ref r11)] [(.int (1 : Int32))])
            refine retZ X16 hx (t := .boolean) Bd.returns (by simp) (hb hby at_220) hlk (by decide) (by decide) ?_
            show Q0 Z p0 p1 p2 p3 p4 p5 h0 n0 _ T16.heap _
            rw [e16]
            have hv' : (nar .boolean (1 : Int32)) = (1 : Int32) := by
              rfl
            have hv : (some (.int (nar .boolean (1 : Int32))) : Option Value) = some (.int (1 : Int32)) := congrArg (fun z => (some (.int z) : Option Value)) hv'
            exact ⟨hv, N16⟩
          show Run _ _ _ _ _ _ _ T8 (mkF m 100 #[.val (.int p0), .val (.int p1), .val (.int p2), .val (.int p3), .val (.int p4), .val (.int p5), .val (.int ((p0 &&& (2147483647 : Int32)) % (5 : Int32))), .val (.int z1), .val (.ref b2), .unset] [(.int (3 : Int32)), (.int z1), (.int (3 : Int32)), (.ref b2)])
          by_cases hc100 : (3 : Int32) < z1
          · refine go (T' := T8) (f' := (mkF m 103 #[.val (.int p0), .val (.int p1), .val (.int p2), .val (.int p3), .val (.int p4), .val (.int p5), .val (.int ((p0 &&& (2147483647 : Int32)) % (5 : Int32))), .val (.int z1), .val (.ref b2), .unset] [(.int (3 : Int32)), (.ref b2)])) (by intro t k; exact XS.icmpNo X8.here hx rfl (hb hby at_100) rfl (tlt hc100).2.2.2 k) ?_
            show Run _ _ _ _ _ _ _ T8 (mkF m 103 #[.val (.int p0), .val (.int p1), .val (.int p2), .val (.int p3), .val (.int p4), .val (.int p5), .val (.int ((p0 &&& (2147483647 : Int32)) % (5 : Int32))), .val (.int z1), .val (.ref b2), .unset] [(.int (3 : Int32)), (.ref b2)])
            refine go (T' := T8) (f' := (mkF m 105 #[.val (.int p0), .val (.int p1), .val (.int p2), .val (.int p3), .val (.int p4), .val (.int p5), .val (.int ((p0 &&& (2147483647 : Int32)) % (5 : Int32))), .val (.int z1), .val (.ref b2), .unset] [(.int p5), (.int (3 : Int32)), (.ref b2)])) (by intro t k; exact XS.iload X8.here hx rfl (hb hby at_103) rfl k) ?_
            show Run _ _ _ _ _ _ _ T8 (mkF m 105 #[.val (.int p0), .val (.int p1), .val (.int p2), .val (.int p3), .val (.int p4), .val (.int p5), .val (.int ((p0 &&& (2147483647 : Int32)) % (5 : Int32))), .val (.int z1), .val (.ref b2), .unset] [(.int p5), (.int (3 : Int32)), (.ref b2)])
            refine go (T' := T8) (f' := (mkF m 107 #[.val (.int p0), .val (.int p1), .val (.int p2), .val (.int p3), .val (.int p4), .val (.int p5), .val (.int ((p0 &&& (2147483647 : Int32)) % (5 : Int32))), .val (.int z1), .val (.ref b2), .unset] [(.int (2147483647 : Int32)), (.int p5), (.int (3 : Int32)), (.ref b2)])) (by intro t k; exact X8.ldcInt hx hown (mvT hZ (hw _ (List.mem_of_getElem? (i := 0) rfl))) (g := (mkF m 105 #[.val (.int p0), .val (.int p1), .val (.int p2), .val (.int p3), .val (.int p4), .val (.int p5), .val (.int ((p0 &&& (2147483647 : Int32)) % (5 : Int32))), .val (.int z1), .val (.ref b2), .unset] [(.int p5), (.int (3 : Int32)), (.ref b2)])) rfl (hb hby at_105) _ k) ?_
            show Run _ _ _ _ _ _ _ T8 (mkF m 107 #[.val (.int p0), .val (.int p1), .val (.int p2), .val (.int p3), .val (.int p4), .val (.int p5), .val (.int ((p0 &&& (2147483647 : Int32)) % (5 : Int32))), .val (.int z1), .val (.ref b2), .unset] [(.int (2147483647 : Int32)), (.int p5), (.int (3 : Int32)), (.ref b2)])
            refine go (T' := T8) (f' := (mkF m 108 #[.val (.int p0), .val (.int p1), .val (.int p2), .val (.int p3), .val (.int p4), .val (.int p5), .val (.int ((p0 &&& (2147483647 : Int32)) % (5 : Int32))), .val (.int z1), .val (.ref b2), .unset] [(.int (p5 &&& (2147483647 : Int32))), (.int (3 : Int32)), (.ref b2)])) (by intro t k; exact XS.iand X8.here hx rfl (hb hby at_107) rfl k) ?_
            show Run _ _ _ _ _ _ _ T8 (mkF m 108 #[.val (.int p0), .val (.int p1), .val (.int p2), .val (.int p3), .val (.int p4), .val (.int p5), .val (.int ((p0 &&& (2147483647 : Int32)) % (5 : Int32))), .val (.int z1), .val (.ref b2), .unset] [(.int (p5 &&& (2147483647 : Int32))), (.int (3 : Int32)), (.ref b2)])
            refine go (T' := T8) (f' := (mkF m 110 #[.val (.int p0), .val (.int p1), .val (.int p2), .val (.int p3), .val (.int p4), .val (.int p5), .val (.int ((p0 &&& (2147483647 : Int32)) % (5 : Int32))), .val (.int z1), .val (.ref b2), .unset] [(.int ((p0 &&& (2147483647 : Int32)) % (5 : Int32))), (.int (p5 &&& (2147483647 : Int32))), (.int (3 : Int32)), (.ref b2)])) (by intro t k; exact XS.iload X8.here hx rfl (hb hby at_108) rfl k) ?_
            show Run _ _ _ _ _ _ _ T8 (mkF m 110 #[.val (.int p0), .val (.int p1), .val (.int p2), .val (.int p3), .val (.int p4), .val (.int p5), .val (.int ((p0 &&& (2147483647 : Int32)) % (5 : Int32))), .val (.int z1), .val (.ref b2), .unset] [(.int ((p0 &&& (2147483647 : Int32)) % (5 : Int32))), (.int (p5 &&& (2147483647 : Int32))), (.int (3 : Int32)), (.ref b2)])
            refine go (T' := T8) (f' := (mkF m 111 #[.val (.int p0), .val (.int p1), .val (.int p2), .val (.int p3), .val (.int p4), .val (.int p5), .val (.int ((p0 &&& (2147483647 : Int32)) % (5 : Int32))), .val (.int z1), .val (.ref b2), .unset] [(.int ((p5 &&& (2147483647 : Int32)) % ((p0 &&& (2147483647 : Int32)) % (5 : Int32)))), (.int (3 : Int32)), (.ref b2)])) (by intro t k; exact iremM X8 hx rfl (hb hby at_110) rfl (own_nz hz1 (by decide) hc100) k) ?_
            show Run _ _ _ _ _ _ _ T8 (mkF m 111 #[.val (.int p0), .val (.int p1), .val (.int p2), .val (.int p3), .val (.int p4), .val (.int p5), .val (.int ((p0 &&& (2147483647 : Int32)) % (5 : Int32))), .val (.int z1), .val (.ref b2), .unset] [(.int ((p5 &&& (2147483647 : Int32)) % ((p0 &&& (2147483647 : Int32)) % (5 : Int32)))), (.int (3 : Int32)), (.ref b2)])
            refine go (T' := T8) (f' := (mkF m 116 #[.val (.int p0), .val (.int p1), .val (.int p2), .val (.int p3), .val (.int p4), .val (.int p5), .val (.int ((p0 &&& (2147483647 : Int32)) % (5 : Int32))), .val (.int z1), .val (.ref b2), .unset] [(.int ((p5 &&& (2147483647 : Int32)) % ((p0 &&& (2147483647 : Int32)) % (5 : Int32)))), (.int (3 : Int32)), (.ref b2)])) (by intro t k; exact XS.goto X8.here hx rfl (pc0 := 111) (pc' := 116) rfl (hb hby at_111) (by decide) (by decide) k) ?_
            have ez9 : z9 = ((p5 &&& (2147483647 : Int32)) % ((p0 &&& (2147483647 : Int32)) % (5 : Int32))) := (hz9).trans (if_pos hc100)
            subst ez9
            exact J100
          · refine go (T' := T8) (f' := (mkF m 114 #[.val (.int p0), .val (.int p1), .val (.int p2), .val (.int p3), .val (.int p4), .val (.int p5), .val (.int ((p0 &&& (2147483647 : Int32)) % (5 : Int32))), .val (.int z1), .val (.ref b2), .unset] [(.int (3 : Int32)), (.ref b2)])) (by intro t k; exact XS.icmpYes X8.here hx rfl (pc0 := 100) (pc' := 114) rfl (hb hby at_100) rfl (flt hc100).2.2.2 (by decide) (by decide) k) ?_
            show Run _ _ _ _ _ _ _ T8 (mkF m 114 #[.val (.int p0), .val (.int p1), .val (.int p2), .val (.int p3), .val (.int p4), .val (.int p5), .val (.int ((p0 &&& (2147483647 : Int32)) % (5 : Int32))), .val (.int z1), .val (.ref b2), .unset] [(.int (3 : Int32)), (.ref b2)])
            refine go (T' := T8) (f' := (mkF m 116 #[.val (.int p0), .val (.int p1), .val (.int p2), .val (.int p3), .val (.int p4), .val (.int p5), .val (.int ((p0 &&& (2147483647 : Int32)) % (5 : Int32))), .val (.int z1), .val (.ref b2), .unset] [(.int p5), (.int (3 : Int32)), (.ref b2)])) (by intro t k; exact XS.iload X8.here hx rfl (hb hby at_114) rfl k) ?_
            have ez9 : z9 = p5 := (hz9).trans (if_neg hc100)
            subst ez9
            exact J100
        show Run _ _ _ _ _ _ _ T6 (mkF m 77 #[.val (.int p0), .val (.int p1), .val (.int p2), .val (.int p3), .val (.int p4), .val (.int p5), .val (.int ((p0 &&& (2147483647 : Int32)) % (5 : Int32))), .val (.int z1), .val (.ref b2), .unset] [(.int (2 : Int32)), (.int z1), (.int (2 : Int32)), (.ref b2)])
        by_cases hc77 : (2 : Int32) < z1
        · refine go (T' := T6) (f' := (mkF m 80 #[.val (.int p0), .val (.int p1), .val (.int p2), .val (.int p3), .val (.int p4), .val (.int p5), .val (.int ((p0 &&& (2147483647 : Int32)) % (5 : Int32))), .val (.int z1), .val (.ref b2), .unset] [(.int (2 : Int32)), (.ref b2)])) (by intro t k; exact XS.icmpNo X6.here hx rfl (hb hby at_77) rfl (tlt hc77).2.2.2 k) ?_
          show Run _ _ _ _ _ _ _ T6 (mkF m 80 #[.val (.int p0), .val (.int p1), .val (.int p2), .val (.int p3), .val (.int p4), .val (.int p5), .val (.int ((p0 &&& (2147483647 : Int32)) % (5 : Int32))), .val (.int z1), .val (.ref b2), .unset] [(.int (2 : Int32)), (.ref b2)])
          refine go (T' := T6) (f' := (mkF m 82 #[.val (.int p0), .val (.int p1), .val (.int p2), .val (.int p3), .val (.int p4), .val (.int p5), .val (.int ((p0 &&& (2147483647 : Int32)) % (5 : Int32))), .val (.int z1), .val (.ref b2), .unset] [(.int p4), (.int (2 : Int32)), (.ref b2)])) (by intro t k; exact XS.iload X6.here hx rfl (hb hby at_80) rfl k) ?_
          show Run _ _ _ _ _ _ _ T6 (mkF m 82 #[.val (.int p0), .val (.int p1), .val (.int p2), .val (.int p3), .val (.int p4), .val (.int p5), .val (.int ((p0 &&& (2147483647 : Int32)) % (5 : Int32))), .val (.int z1), .val (.ref b2), .unset] [(.int p4), (.int (2 : Int32)), (.ref b2)])
          refine go (T' := T6) (f' := (mkF m 84 #[.val (.int p0), .val (.int p1), .val (.int p2), .val (.int p3), .val (.int p4), .val (.int p5), .val (.int ((p0 &&& (2147483647 : Int32)) % (5 : Int32))), .val (.int z1), .val (.ref b2), .unset] [(.int (2147483647 : Int32)), (.int p4), (.int (2 : Int32)), (.ref b2)])) (by intro t k; exact X6.ldcInt hx hown (mvT hZ (hw _ (List.mem_of_getElem? (i := 0) rfl))) (g := (mkF m 82 #[.val (.int p0), .val (.int p1), .val (.int p2), .val (.int p3), .val (.int p4), .val (.int p5), .val (.int ((p0 &&& (2147483647 : Int32)) % (5 : Int32))), .val (.int z1), .val (.ref b2), .unset] [(.int p4), (.int (2 : Int32)), (.ref b2)])) rfl (hb hby at_82) _ k) ?_
          show Run _ _ _ _ _ _ _ T6 (mkF m 84 #[.val (.int p0), .val (.int p1), .val (.int p2), .val (.int p3), .val (.int p4), .val (.int p5), .val (.int ((p0 &&& (2147483647 : Int32)) % (5 : Int32))), .val (.int z1), .val (.ref b2), .unset] [(.int (2147483647 : Int32)), (.int p4), (.int (2 : Int32)), (.ref b2)])
          refine go (T' := T6) (f' := (mkF m 85 #[.val (.int p0), .val (.int p1), .val (.int p2), .val (.int p3), .val (.int p4), .val (.int p5), .val (.int ((p0 &&& (2147483647 : Int32)) % (5 : Int32))), .val (.int z1), .val (.ref b2), .unset] [(.int (p4 &&& (2147483647 : Int32))), (.int (2 : Int32)), (.ref b2)])) (by intro t k; exact XS.iand X6.here hx rfl (hb hby at_84) rfl k) ?_
          show Run _ _ _ _ _ _ _ T6 (mkF m 85 #[.val (.int p0), .val (.int p1), .val (.int p2), .val (.int p3), .val (.int p4), .val (.int p5), .val (.int ((p0 &&& (2147483647 : Int32)) % (5 : Int32))), .val (.int z1), .val (.ref b2), .unset] [(.int (p4 &&& (2147483647 : Int32))), (.int (2 : Int32)), (.ref b2)])
          refine go (T' := T6) (f' := (mkF m 87 #[.val (.int p0), .val (.int p1), .val (.int p2), .val (.int p3), .val (.int p4), .val (.int p5), .val (.int ((p0 &&& (2147483647 : Int32)) % (5 : Int32))), .val (.int z1), .val (.ref b2), .unset] [(.int ((p0 &&& (2147483647 : Int32)) % (5 : Int32))), (.int (p4 &&& (2147483647 : Int32))), (.int (2 : Int32)), (.ref b2)])) (by intro t k; exact XS.iload X6.here hx rfl (hb hby at_85) rfl k) ?_
          show Run _ _ _ _ _ _ _ T6 (mkF m 87 #[.val (.int p0), .val (.int p1), .val (.int p2), .val (.int p3), .val (.int p4), .val (.int p5), .val (.int ((p0 &&& (2147483647 : Int32)) % (5 : Int32))), .val (.int z1), .val (.ref b2), .unset] [(.int ((p0 &&& (2147483647 : Int32)) % (5 : Int32))), (.int (p4 &&& (2147483647 : Int32))), (.int (2 : Int32)), (.ref b2)])
          refine go (T' := T6) (f' := (mkF m 88 #[.val (.int p0), .val (.int p1), .val (.int p2), .val (.int p3), .val (.int p4), .val (.int p5), .val (.int ((p0 &&& (2147483647 : Int32)) % (5 : Int32))), .val (.int z1), .val (.ref b2), .unset] [(.int ((p4 &&& (2147483647 : Int32)) % ((p0 &&& (2147483647 : Int32)) % (5 : Int32)))), (.int (2 : Int32)), (.ref b2)])) (by intro t k; exact iremM X6 hx rfl (hb hby at_87) rfl (own_nz hz1 (by decide) hc77) k) ?_
          show Run _ _ _ _ _ _ _ T6 (mkF m 88 #[.val (.int p0), .val (.int p1), .val (.int p2), .val (.int p3), .val (.int p4), .val (.int p5), .val (.int ((p0 &&& (2147483647 : Int32)) % (5 : Int32))), .val (.int z1), .val (.ref b2), .unset] [(.int ((p4 &&& (2147483647 : Int32)) % ((p0 &&& (2147483647 : Int32)) % (5 : Int32)))), (.int (2 : Int32)), (.ref b2)])
          refine go (T' := T6) (f' := (mkF m 93 #[.val (.int p0), .val (.int p1), .val (.int p2), .val (.int p3), .val (.int p4), .val (.int p5), .val (.int ((p0 &&& (2147483647 : Int32)) % (5 : Int32))), .val (.int z1), .val (.ref b2), .unset] [(.int ((p4 &&& (2147483647 : Int32)) % ((p0 &&& (2147483647 : Int32)) % (5 : Int32)))), (.int (2 : Int32)), (.ref b2)])) (by intro t k; exact XS.goto X6.here hx rfl (pc0 := 88) (pc' := 93) rfl (hb hby at_88) (by decide) (by decide) k) ?_
          have ez7 : z7 = ((p4 &&& (2147483647 : Int32)) % ((p0 &&& (2147483647 : Int32)) % (5 : Int32))) := (hz7).trans (if_pos hc77)
          subst ez7
          exact J77
        · refine go (T' := T6) (f' := (mkF m 91 #[.val (.int p0), .val (.int p1), .val (.int p2), .val (.int p3), .val (.int p4), .val (.int p5), .val (.int ((p0 &&& (2147483647 : Int32)) % (5 : Int32))), .val (.int z1), .val (.ref b2), .unset] [(.int (2 : Int32)), (.ref b2)])) (by intro t k; exact XS.icmpYes X6.here hx rfl (pc0 := 77) (pc' := 91) rfl (hb hby at_77) rfl (flt hc77).2.2.2 (by decide) (by decide) k) ?_
          show Run _ _ _ _ _ _ _ T6 (mkF m 91 #[.val (.int p0), .val (.int p1), .val (.int p2), .val (.int p3), .val (.int p4), .val (.int p5), .val (.int ((p0 &&& (2147483647 : Int32)) % (5 : Int32))), .val (.int z1), .val (.ref b2), .unset] [(.int (2 : Int32)), (.ref b2)])
          refine go (T' := T6) (f' := (mkF m 93 #[.val (.int p0), .val (.int p1), .val (.int p2), .val (.int p3), .val (.int p4), .val (.int p5), .val (.int ((p0 &&& (2147483647 : Int32)) % (5 : Int32))), .val (.int z1), .val (.ref b2), .unset] [(.int p4), (.int (2 : Int32)), (.ref b2)])) (by intro t k; exact XS.iload X6.here hx rfl (hb hby at_91) rfl k) ?_
          have ez7 : z7 = p4 := (hz7).trans (if_neg hc77)
          subst ez7
          exact J77
      show Run _ _ _ _ _ _ _ T4 (mkF m 56 #[.val (.int p0), .val (.int p1), .val (.int p2), .val (.int p3), .val (.int p4), .val (.int p5), .val (.int ((p0 &&& (2147483647 : Int32)) % (5 : Int32))), .val (.int z1), .val (.ref b2), .unset] [(.int (1 : Int32)), (.int z1), (.int (1 : Int32)), (.ref b2)])
      by_cases hc56 : (1 : Int32) < z1
      · refine go (T' := T4) (f' := (mkF m 59 #[.val (.int p0), .val (.int p1), .val (.int p2), .val (.int p3), .val (.int p4), .val (.int p5), .val (.int ((p0 &&& (2147483647 : Int32)) % (5 : Int32))), .val (.int z1), .val (.ref b2), .unset] [(.int (1 : Int32)), (.ref b2)])) (by intro t k; exact XS.icmpNo X4.here hx rfl (hb hby at_56) rfl (tlt hc56).2.2.2 k) ?_
        show Run _ _ _ _ _ _ _ T4 (mkF m 59 #[.val (.int p0), .val (.int p1), .val (.int p2), .val (.int p3), .val (.int p4), .val (.int p5), .val (.int ((p0 &&& (2147483647 : Int32)) % (5 : Int32))), .val (.int z1), .val (.ref b2), .unset] [(.int (1 : Int32)), (.ref b2)])
        refine go (T' := T4) (f' := (mkF m 60 #[.val (.int p0), .val (.int p1), .val (.int p2), .val (.int p3), .val (.int p4), .val (.int p5), .val (.int ((p0 &&& (2147483647 : Int32)) % (5 : Int32))), .val (.int z1), .val (.ref b2), .unset] [(.int p3), (.int (1 : Int32)), (.ref b2)])) (by intro t k; exact XS.iloadN X4.here hx rfl (hb hby at_59) rfl k) ?_
        show Run _ _ _ _ _ _ _ T4 (mkF m 60 #[.val (.int p0), .val (.int p1), .val (.int p2), .val (.int p3), .val (.int p4), .val (.int p5), .val (.int ((p0 &&& (2147483647 : Int32)) % (5 : Int32))), .val (.int z1), .val (.ref b2), .unset] [(.int p3), (.int (1 : Int32)), (.ref b2)])
        refine go (T' := T4) (f' := (mkF m 62 #[.val (.int p0), .val (.int p1), .val (.int p2), .val (.int p3), .val (.int p4), .val (.int p5), .val (.int ((p0 &&& (2147483647 : Int32)) % (5 : Int32))), .val (.int z1), .val (.ref b2), .unset] [(.int (2147483647 : Int32)), (.int p3), (.int (1 : Int32)), (.ref b2)])) (by intro t k; exact X4.ldcInt hx hown (mvT hZ (hw _ (List.mem_of_getElem? (i := 0) rfl))) (g := (mkF m 60 #[.val (.int p0), .val (.int p1), .val (.int p2), .val (.int p3), .val (.int p4), .val (.int p5), .val (.int ((p0 &&& (2147483647 : Int32)) % (5 : Int32))), .val (.int z1), .val (.ref b2), .unset] [(.int p3), (.int (1 : Int32)), (.ref b2)])) rfl (hb hby at_60) _ k) ?_
        show Run _ _ _ _ _ _ _ T4 (mkF m 62 #[.val (.int p0), .val (.int p1), .val (.int p2), .val (.int p3), .val (.int p4), .val (.int p5), .val (.int ((p0 &&& (2147483647 : Int32)) % (5 : Int32))), .val (.int z1), .val (.ref b2), .unset] [(.int (2147483647 : Int32)), (.int p3), (.int (1 : Int32)), (.ref b2)])
        refine go (T' := T4) (f' := (mkF m 63 #[.val (.int p0), .val (.int p1), .val (.int p2), .val (.int p3), .val (.int p4), .val (.int p5), .val (.int ((p0 &&& (2147483647 : Int32)) % (5 : Int32))), .val (.int z1), .val (.ref b2), .unset] [(.int (p3 &&& (2147483647 : Int32))), (.int (1 : Int32)), (.ref b2)])) (by intro t k; exact XS.iand X4.here hx rfl (hb hby at_62) rfl k) ?_
        show Run _ _ _ _ _ _ _ T4 (mkF m 63 #[.val (.int p0), .val (.int p1), .val (.int p2), .val (.int p3), .val (.int p4), .val (.int p5), .val (.int ((p0 &&& (2147483647 : Int32)) % (5 : Int32))), .val (.int z1), .val (.ref b2), .unset] [(.int (p3 &&& (2147483647 : Int32))), (.int (1 : Int32)), (.ref b2)])
        refine go (T' := T4) (f' := (mkF m 65 #[.val (.int p0), .val (.int p1), .val (.int p2), .val (.int p3), .val (.int p4), .val (.int p5), .val (.int ((p0 &&& (2147483647 : Int32)) % (5 : Int32))), .val (.int z1), .val (.ref b2), .unset] [(.int ((p0 &&& (2147483647 : Int32)) % (5 : Int32))), (.int (p3 &&& (2147483647 : Int32))), (.int (1 : Int32)), (.ref b2)])) (by intro t k; exact XS.iload X4.here hx rfl (hb hby at_63) rfl k) ?_
        show Run _ _ _ _ _ _ _ T4 (mkF m 65 #[.val (.int p0), .val (.int p1), .val (.int p2), .val (.int p3), .val (.int p4), .val (.int p5), .val (.int ((p0 &&& (2147483647 : Int32)) % (5 : Int32))), .val (.int z1), .val (.ref b2), .unset] [(.int ((p0 &&& (2147483647 : Int32)) % (5 : Int32))), (.int (p3 &&& (2147483647 : Int32))), (.int (1 : Int32)), (.ref b2)])
        refine go (T' := T4) (f' := (mkF m 66 #[.val (.int p0), .val (.int p1), .val (.int p2), .val (.int p3), .val (.int p4), .val (.int p5), .val (.int ((p0 &&& (2147483647 : Int32)) % (5 : Int32))), .val (.int z1), .val (.ref b2), .unset] [(.int ((p3 &&& (2147483647 : Int32)) % ((p0 &&& (2147483647 : Int32)) % (5 : Int32)))), (.int (1 : Int32)), (.ref b2)])) (by intro t k; exact iremM X4 hx rfl (hb hby at_65) rfl (own_nz hz1 (by decide) hc56) k) ?_
        show Run _ _ _ _ _ _ _ T4 (mkF m 66 #[.val (.int p0), .val (.int p1), .val (.int p2), .val (.int p3), .val (.int p4), .val (.int p5), .val (.int ((p0 &&& (2147483647 : Int32)) % (5 : Int32))), .val (.int z1), .val (.ref b2), .unset] [(.int ((p3 &&& (2147483647 : Int32)) % ((p0 &&& (2147483647 : Int32)) % (5 : Int32)))), (.int (1 : Int32)), (.ref b2)])
        refine go (T' := T4) (f' := (mkF m 70 #[.val (.int p0), .val (.int p1), .val (.int p2), .val (.int p3), .val (.int p4), .val (.int p5), .val (.int ((p0 &&& (2147483647 : Int32)) % (5 : Int32))), .val (.int z1), .val (.ref b2), .unset] [(.int ((p3 &&& (2147483647 : Int32)) % ((p0 &&& (2147483647 : Int32)) % (5 : Int32)))), (.int (1 : Int32)), (.ref b2)])) (by intro t k; exact XS.goto X4.here hx rfl (pc0 := 66) (pc' := 70) rfl (hb hby at_66) (by decide) (by decide) k) ?_
        have ez5 : z5 = ((p3 &&& (2147483647 : Int32)) % ((p0 &&& (2147483647 : Int32)) % (5 : Int32))) := (hz5).trans (if_pos hc56)
        subst ez5
        exact J56
      · refine go (T' := T4) (f' := (mkF m 69 #[.val (.int p0), .val (.int p1), .val (.int p2), .val (.int p3), .val (.int p4), .val (.int p5), .val (.int ((p0 &&& (2147483647 : Int32)) % (5 : Int32))), .val (.int z1), .val (.ref b2), .unset] [(.int (1 : Int32)), (.ref b2)])) (by intro t k; exact XS.icmpYes X4.here hx rfl (pc0 := 56) (pc' := 69) rfl (hb hby at_56) rfl (flt hc56).2.2.2 (by decide) (by decide) k) ?_
        show Run _ _ _ _ _ _ _ T4 (mkF m 69 #[.val (.int p0), .val (.int p1), .val (.int p2), .val (.int p3), .val (.int p4), .val (.int p5), .val (.int ((p0 &&& (2147483647 : Int32)) % (5 : Int32))), .val (.int z1), .val (.ref b2), .unset] [(.int (1 : Int32)), (.ref b2)])
        refine go (T' := T4) (f' := (mkF m 70 #[.val (.int p0), .val (.int p1), .val (.int p2), .val (.int p3), .val (.int p4), .val (.int p5), .val (.int ((p0 &&& (2147483647 : Int32)) % (5 : Int32))), .val (.int z1), .val (.ref b2), .unset] [(.int p3), (.int (1 : Int32)), (.ref b2)])) (by intro t k; exact XS.iloadN X4.here hx rfl (hb hby at_69) rfl k) ?_
        have ez5 : z5 = p3 := (hz5).trans (if_neg hc56)
        subst ez5
        exact J56
    show Run _ _ _ _ _ _ _ T2 (mkF m 35 #[.val (.int p0), .val (.int p1), .val (.int p2), .val (.int p3), .val (.int p4), .val (.int p5), .val (.int ((p0 &&& (2147483647 : Int32)) % (5 : Int32))), .val (.int z1), .val (.ref b2), .unset] [(.int z1), (.int (0 : Int32)), (.ref b2)])
    by_cases hc35 : (0 : Int32) < z1
    · refine go (T' := T2) (f' := (mkF m 38 #[.val (.int p0), .val (.int p1), .val (.int p2), .val (.int p3), .val (.int p4), .val (.int p5), .val (.int ((p0 &&& (2147483647 : Int32)) % (5 : Int32))), .val (.int z1), .val (.ref b2), .unset] [(.int (0 : Int32)), (.ref b2)])) (by intro t k; exact XS.ifNo X2.here hx rfl (hb hby at_35) rfl ((if0 _ _).trans (tlt hc35).2.2.2) k) ?_
      show Run _ _ _ _ _ _ _ T2 (mkF m 38 #[.val (.int p0), .val (.int p1), .val (.int p2), .val (.int p3), .val (.int p4), .val (.int p5), .val (.int ((p0 &&& (2147483647 : Int32)) % (5 : Int32))), .val (.int z1), .val (.ref b2), .unset] [(.int (0 : Int32)), (.ref b2)])
      refine go (T' := T2) (f' := (mkF m 39 #[.val (.int p0), .val (.int p1), .val (.int p2), .val (.int p3), .val (.int p4), .val (.int p5), .val (.int ((p0 &&& (2147483647 : Int32)) % (5 : Int32))), .val (.int z1), .val (.ref b2), .unset] [(.int p2), (.int (0 : Int32)), (.ref b2)])) (by intro t k; exact XS.iloadN X2.here hx rfl (hb hby at_38) rfl k) ?_
      show Run _ _ _ _ _ _ _ T2 (mkF m 39 #[.val (.int p0), .val (.int p1), .val (.int p2), .val (.int p3), .val (.int p4), .val (.int p5), .val (.int ((p0 &&& (2147483647 : Int32)) % (5 : Int32))), .val (.int z1), .val (.ref b2), .unset] [(.int p2), (.int (0 : Int32)), (.ref b2)])
      refine go (T' := T2) (f' := (mkF m 41 #[.val (.int p0), .val (.int p1), .val (.int p2), .val (.int p3), .val (.int p4), .val (.int p5), .val (.int ((p0 &&& (2147483647 : Int32)) % (5 : Int32))), .val (.int z1), .val (.ref b2), .unset] [(.int (2147483647 : Int32)), (.int p2), (.int (0 : Int32)), (.ref b2)])) (by intro t k; exact X2.ldcInt hx hown (mvT hZ (hw _ (List.mem_of_getElem? (i := 0) rfl))) (g := (mkF m 39 #[.val (.int p0), .val (.int p1), .val (.int p2), .val (.int p3), .val (.int p4), .val (.int p5), .val (.int ((p0 &&& (2147483647 : Int32)) % (5 : Int32))), .val (.int z1), .val (.ref b2), .unset] [(.int p2), (.int (0 : Int32)), (.ref b2)])) rfl (hb hby at_39) _ k) ?_
      show Run _ _ _ _ _ _ _ T2 (mkF m 41 #[.val (.int p0), .val (.int p1), .val (.int p2), .val (.int p3), .val (.int p4), .val (.int p5), .val (.int ((p0 &&& (2147483647 : Int32)) % (5 : Int32))), .val (.int z1), .val (.ref b2), .unset] [(.int (2147483647 : Int32)), (.int p2), (.int (0 : Int32)), (.ref b2)])
      refine go (T' := T2) (f' := (mkF m 42 #[.val (.int p0), .val (.int p1), .val (.int p2), .val (.int p3), .val (.int p4), .val (.int p5), .val (.int ((p0 &&& (2147483647 : Int32)) % (5 : Int32))), .val (.int z1), .val (.ref b2), .unset] [(.int (p2 &&& (2147483647 : Int32))), (.int (0 : Int32)), (.ref b2)])) (by intro t k; exact XS.iand X2.here hx rfl (hb hby at_41) rfl k) ?_
      show Run _ _ _ _ _ _ _ T2 (mkF m 42 #[.val (.int p0), .val (.int p1), .val (.int p2), .val (.int p3), .val (.int p4), .val (.int p5), .val (.int ((p0 &&& (2147483647 : Int32)) % (5 : Int32))), .val (.int z1), .val (.ref b2), .unset] [(.int (p2 &&& (2147483647 : Int32))), (.int (0 : Int32)), (.ref b2)])
      refine go (T' := T2) (f' := (mkF m 44 #[.val (.int p0), .val (.int p1), .val (.int p2), .val (.int p3), .val (.int p4), .val (.int p5), .val (.int ((p0 &&& (2147483647 : Int32)) % (5 : Int32))), .val (.int z1), .val (.ref b2), .unset] [(.int ((p0 &&& (2147483647 : Int32)) % (5 : Int32))), (.int (p2 &&& (2147483647 : Int32))), (.int (0 : Int32)), (.ref b2)])) (by intro t k; exact XS.iload X2.here hx rfl (hb hby at_42) rfl k) ?_
      show Run _ _ _ _ _ _ _ T2 (mkF m 44 #[.val (.int p0), .val (.int p1), .val (.int p2), .val (.int p3), .val (.int p4), .val (.int p5), .val (.int ((p0 &&& (2147483647 : Int32)) % (5 : Int32))), .val (.int z1), .val (.ref b2), .unset] [(.int ((p0 &&& (2147483647 : Int32)) % (5 : Int32))), (.int (p2 &&& (2147483647 : Int32))), (.int (0 : Int32)), (.ref b2)])
      refine go (T' := T2) (f' := (mkF m 45 #[.val (.int p0), .val (.int p1), .val (.int p2), .val (.int p3), .val (.int p4), .val (.int p5), .val (.int ((p0 &&& (2147483647 : Int32)) % (5 : Int32))), .val (.int z1), .val (.ref b2), .unset] [(.int ((p2 &&& (2147483647 : Int32)) % ((p0 &&& (2147483647 : Int32)) % (5 : Int32)))), (.int (0 : Int32)), (.ref b2)])) (by intro t k; exact iremM X2 hx rfl (hb hby at_44) rfl (own_nz hz1 (by decide) hc35) k) ?_
      show Run _ _ _ _ _ _ _ T2 (mkF m 45 #[.val (.int p0), .val (.int p1), .val (.int p2), .val (.int p3), .val (.int p4), .val (.int p5), .val (.int ((p0 &&& (2147483647 : Int32)) % (5 : Int32))), .val (.int z1), .val (.ref b2), .unset] [(.int ((p2 &&& (2147483647 : Int32)) % ((p0 &&& (2147483647 : Int32)) % (5 : Int32)))), (.int (0 : Int32)), (.ref b2)])
      refine go (T' := T2) (f' := (mkF m 49 #[.val (.int p0), .val (.int p1), .val (.int p2), .val (.int p3), .val (.int p4), .val (.int p5), .val (.int ((p0 &&& (2147483647 : Int32)) % (5 : Int32))), .val (.int z1), .val (.ref b2), .unset] [(.int ((p2 &&& (2147483647 : Int32)) % ((p0 &&& (2147483647 : Int32)) % (5 : Int32)))), (.int (0 : Int32)), (.ref b2)])) (by intro t k; exact XS.goto X2.here hx rfl (pc0 := 45) (pc' := 49) rfl (hb hby at_45) (by decide) (by decide) k) ?_
      have ez3 : z3 = ((p2 &&& (2147483647 : Int32)) % ((p0 &&& (2147483647 : Int32)) % (5 : Int32))) := (hz3).trans (if_pos hc35)
      subst ez3
      exact J35
    · refine go (T' := T2) (f' := (mkF m 48 #[.val (.int p0), .val (.int p1), .val (.int p2), .val (.int p3), .val (.int p4), .val (.int p5), .val (.int ((p0 &&& (2147483647 : Int32)) % (5 : Int32))), .val (.int z1), .val (.ref b2), .unset] [(.int (0 : Int32)), (.ref b2)])) (by intro t k; exact XS.ifYes X2.here hx rfl (pc0 := 35) (pc' := 48) rfl (hb hby at_35) rfl ((if0 _ _).trans (flt hc35).2.2.2) (by decide) (by decide) k) ?_
      show Run _ _ _ _ _ _ _ T2 (mkF m 48 #[.val (.int p0), .val (.int p1), .val (.int p2), .val (.int p3), .val (.int p4), .val (.int p5), .val (.int ((p0 &&& (2147483647 : Int32)) % (5 : Int32))), .val (.int z1), .val (.ref b2), .unset] [(.int (0 : Int32)), (.ref b2)])
      refine go (T' := T2) (f' := (mkF m 49 #[.val (.int p0), .val (.int p1), .val (.int p2), .val (.int p3), .val (.int p4), .val (.int p5), .val (.int ((p0 &&& (2147483647 : Int32)) % (5 : Int32))), .val (.int z1), .val (.ref b2), .unset] [(.int p2), (.int (0 : Int32)), (.ref b2)])) (by intro t k; exact XS.iloadN X2.here hx rfl (hb hby at_48) rfl k) ?_
      have ez3 : z3 = p2 := (hz3).trans (if_neg hc35)
      subst ez3
      exact J35
  show Run _ _ _ _ _ _ _ s₁ (mkF m 10 #[.val (.int p0), .val (.int p1), .val (.int p2), .val (.int p3), .val (.int p4), .val (.int p5), .val (.int ((p0 &&& (2147483647 : Int32)) % (5 : Int32))), .unset, .unset, .unset] [(.int ((p0 &&& (2147483647 : Int32)) % (5 : Int32)))])
  by_cases hc10 : ((p0 &&& (2147483647 : Int32)) % (5 : Int32)) = (0 : Int32)
  · refine go (T' := s₁) (f' := (mkF m 13 #[.val (.int p0), .val (.int p1), .val (.int p2), .val (.int p3), .val (.int p4), .val (.int p5), .val (.int ((p0 &&& (2147483647 : Int32)) % (5 : Int32))), .unset, .unset, .unset] [])) (by intro t k; exact XS.ifNo X0.here hx rfl (hb hby at_10) rfl ((if0 _ _).trans (teq hc10).2) k) ?_
    show Run _ _ _ _ _ _ _ s₁ (mkF m 13 #[.val (.int p0), .val (.int p1), .val (.int p2), .val (.int p3), .val (.int p4), .val (.int p5), .val (.int ((p0 &&& (2147483647 : Int32)) % (5 : Int32))), .unset, .unset, .unset] [])
    refine go (T' := s₁) (f' := (mkF m 14 #[.val (.int p0), .val (.int p1), .val (.int p2), .val (.int p3), .val (.int p4), .val (.int p5), .val (.int ((p0 &&& (2147483647 : Int32)) % (5 : Int32))), .unset, .unset, .unset] [(.int (0 : Int32))])) (by intro t k; exact XS.iconst X0.here hx rfl (hb hby at_13) k) ?_
    show Run _ _ _ _ _ _ _ s₁ (mkF m 14 #[.val (.int p0), .val (.int p1), .val (.int p2), .val (.int p3), .val (.int p4), .val (.int p5), .val (.int ((p0 &&& (2147483647 : Int32)) % (5 : Int32))), .unset, .unset, .unset] [(.int (0 : Int32))])
    refine go (T' := s₁) (f' := (mkF m 23 #[.val (.int p0), .val (.int p1), .val (.int p2), .val (.int p3), .val (.int p4), .val (.int p5), .val (.int ((p0 &&& (2147483647 : Int32)) % (5 : Int32))), .unset, .unset, .unset] [(.int (0 : Int32))])) (by intro t k; exact XS.goto X0.here hx rfl (pc0 := 14) (pc' := 23) rfl (hb hby at_14) (by decide) (by decide) k) ?_
    have ez1 : z1 = (0 : Int32) := (hz1).trans (if_pos hc10)
    subst ez1
    exact J10
  · refine go (T' := s₁) (f' := (mkF m 17 #[.val (.int p0), .val (.int p1), .val (.int p2), .val (.int p3), .val (.int p4), .val (.int p5), .val (.int ((p0 &&& (2147483647 : Int32)) % (5 : Int32))), .unset, .unset, .unset] [])) (by intro t k; exact XS.ifYes X0.here hx rfl (pc0 := 10) (pc' := 17) rfl (hb hby at_10) rfl ((if0 _ _).trans (feq hc10).2) (by decide) (by decide) k) ?_
    show Run _ _ _ _ _ _ _ s₁ (mkF m 17 #[.val (.int p0), .val (.int p1), .val (.int p2), .val (.int p3), .val (.int p4), .val (.int p5), .val (.int ((p0 &&& (2147483647 : Int32)) % (5 : Int32))), .unset, .unset, .unset] [])
    refine go (T' := s₁) (f' := (mkF m 18 #[.val (.int p0), .val (.int p1), .val (.int p2), .val (.int p3), .val (.int p4), .val (.int p5), .val (.int ((p0 &&& (2147483647 : Int32)) % (5 : Int32))), .unset, .unset, .unset] [(.int p1)])) (by intro t k; exact XS.iloadN X0.here hx rfl (hb hby at_17) rfl k) ?_
    show Run _ _ _ _ _ _ _ s₁ (mkF m 18 #[.val (.int p0), .val (.int p1), .val (.int p2), .val (.int p3), .val (.int p4), .val (.int p5), .val (.int ((p0 &&& (2147483647 : Int32)) % (5 : Int32))), .unset, .unset, .unset] [(.int p1)])
    refine go (T' := s₁) (f' := (mkF m 20 #[.val (.int p0), .val (.int p1), .val (.int p2), .val (.int p3), .val (.int p4), .val (.int p5), .val (.int ((p0 &&& (2147483647 : Int32)) % (5 : Int32))), .unset, .unset, .unset] [(.int (2147483647 : Int32)), (.int p1)])) (by intro t k; exact X0.ldcInt hx hown (mvT hZ (hw _ (List.mem_of_getElem? (i := 0) rfl))) (g := (mkF m 18 #[.val (.int p0), .val (.int p1), .val (.int p2), .val (.int p3), .val (.int p4), .val (.int p5), .val (.int ((p0 &&& (2147483647 : Int32)) % (5 : Int32))), .unset, .unset, .unset] [(.int p1)])) rfl (hb hby at_18) _ k) ?_
    show Run _ _ _ _ _ _ _ s₁ (mkF m 20 #[.val (.int p0), .val (.int p1), .val (.int p2), .val (.int p3), .val (.int p4), .val (.int p5), .val (.int ((p0 &&& (2147483647 : Int32)) % (5 : Int32))), .unset, .unset, .unset] [(.int (2147483647 : Int32)), (.int p1)])
    refine go (T' := s₁) (f' := (mkF m 21 #[.val (.int p0), .val (.int p1), .val (.int p2), .val (.int p3), .val (.int p4), .val (.int p5), .val (.int ((p0 &&& (2147483647 : Int32)) % (5 : Int32))), .unset, .unset, .unset] [(.int (p1 &&& (2147483647 : Int32)))])) (by intro t k; exact XS.iand X0.here hx rfl (hb hby at_20) rfl k) ?_
    show Run _ _ _ _ _ _ _ s₁ (mkF m 21 #[.val (.int p0), .val (.int p1), .val (.int p2), .val (.int p3), .val (.int p4), .val (.int p5), .val (.int ((p0 &&& (2147483647 : Int32)) % (5 : Int32))), .unset, .unset, .unset] [(.int (p1 &&& (2147483647 : Int32)))])
    refine go (T' := s₁) (f' := (mkF m 22 #[.val (.int p0), .val (.int p1), .val (.int p2), .val (.int p3), .val (.int p4), .val (.int p5), .val (.int ((p0 &&& (2147483647 : Int32)) % (5 : Int32))), .unset, .unset, .unset] [(.int (5 : Int32)), (.int (p1 &&& (2147483647 : Int32)))])) (by intro t k; exact XS.iconst X0.here hx rfl (hb hby at_21) k) ?_
    show Run _ _ _ _ _ _ _ s₁ (mkF m 22 #[.val (.int p0), .val (.int p1), .val (.int p2), .val (.int p3), .val (.int p4), .val (.int p5), .val (.int ((p0 &&& (2147483647 : Int32)) % (5 : Int32))), .unset, .unset, .unset] [(.int (5 : Int32)), (.int (p1 &&& (2147483647 : Int32)))])
    refine go (T' := s₁) (f' := (mkF m 23 #[.val (.int p0), .val (.int p1), .val (.int p2), .val (.int p3), .val (.int p4), .val (.int p5), .val (.int ((p0 &&& (2147483647 : Int32)) % (5 : Int32))), .unset, .unset, .unset] [(.int ((p1 &&& (2147483647 : Int32)) % (5 : Int32)))])) (by intro t k; exact iremM X0 hx rfl (hb hby at_22) rfl (by decide) k) ?_
    have ez1 : z1 = ((p1 &&& (2147483647 : Int32)) % (5 : Int32)) := (hz1).trans (if_neg hc10)
    subst ez1
    exact J10
set_option maxRecDepth 65536 in
set_option maxHeartbeats 40000000 in
theorem comes_1 {Post : Tables → Env → Array Value → State → Outcome → State → Prop} (hpost : ∀ tb e args s v u, (limb_1_1.after args s (.returned v) u = true ∧ limb_1_2.after args s (.returned v) u = true ∧ True) → FrameEnd s (.returned v) u (Jvm.fieldLocs frame_1_writes args s ++ Jvm.arrayLocs frame_1_arrays args s ++ Jvm.staticLocs frame_1_statics s) 16 128 → Post tb e args s (.returned v) u) :
    ArmFor flags0 classFile x code maxLocals ret World_1 tables_1 room_1 Calls_1 rest_1 Pre_1 Post := by
  intro l hfl _ _ p e ha hc hk s m args below hf hA hF happ hP
  obtain ⟨hcalls, hrest, hpre⟩ := hP
  obtain ⟨-, -, -, hnamed, -, -, -, hat⟩ := (Spec.applies_iff hf).mp happ
  obtain ⟨hg, hn⟩ := and_e (Cond.before_iff.mp (show (Jvm.Cond.and given_1 narrow_1).before args s = true from hpre))
  obtain ⟨g1, g2⟩ := and_e hg
  obtain ⟨g3, g4⟩ := and_e g2
  obtain ⟨g5, g6⟩ := and_e g4
  obtain ⟨g7, g8⟩ := and_e g6
  obtain ⟨g9, g10⟩ := and_e g8
  obtain ⟨g11, g12⟩ := and_e g10
  obtain ⟨w0, w1, w2, w3, w4, w5, rfl⟩ : ∃ w0 w1 w2 w3 w4 w5 : Value, args = #[w0, w1, w2, w3, w4, w5] := by
    have hs : args.size = 6 := by simpa [Cond.value, given_1] using g1
    obtain ⟨L⟩ := args
    match L, hs with
    | [w0, w1, w2, w3, w4, w5], _ => exact ⟨w0, w1, w2, w3, w4, w5, rfl⟩
  have hw := fun d (hd : d ∈ tables_1) => atoms_spec (ws := Jvm.Cond.code x code maxLocals ret :: tables_1) hat d (List.mem_cons_of_mem _ hd)
  have hfit : Fit s := fun {y c} hc i hi => by
    obtain ⟨ha, rfl⟩ := Array.getElem?_eq_some_iff.mp hc
    have q := List.all_eq_true.mp ((Array.all_eq_true_iff_forall_mem.mp hF) _ (Array.getElem_mem ha)) i (List.mem_range.mpr hi)
    simpa [Array.getElem?_eq_getElem hi] using q
  obtain ⟨i0, ei0⟩ := is_v g3
  obtain rfl : w0 = (.int i0) := Option.some.inj ei0
  obtain ⟨i1, ei1⟩ := is_v g5
  obtain rfl : w1 = (.int i1) := Option.some.inj ei1
  obtain ⟨i2, ei2⟩ := is_v g7
  obtain rfl : w2 = (.int i2) := Option.some.inj ei2
  obtain ⟨i3, ei3⟩ := is_v g9
  obtain rfl : w3 = (.int i3) := Option.some.inj ei3
  obtain ⟨i4, ei4⟩ := is_v g11
  obtain rfl : w4 = (.int i4) := Option.some.inj ei4
  obtain ⟨i5, ei5⟩ := is_v g12
  obtain rfl : w5 = (.int i5) := Option.some.inj ei5
  obtain ⟨n, o, h1, h2, h3, _, L, rfl, ⟨rfl, N⟩, hq⟩ := rm0 l s _ hw tables_1 i0 i1 i2 i3 i4 i5 s.heap s.heap.size (Nat.le_refl _) p e ha hc hk s m _ below hf ((Spec.applies_iff_loose hf).mp happ).1 ⟨rfl, State.Warmed39.refl s, rfl⟩ trivial
  refine ⟨n, _, h1, h2, h3, hpost _ _ _ _ _ _ ⟨Cond.after_iff.mpr rfl, Cond.after_iff.mpr (eq_i res_at (Term.int_eval (1)) rfl), trivial⟩ ⟨hq.1, hq.2.1, (hq.2.2.sift fun y hy => Or.inr (N y hy)).mono (by decide) (by decide)⟩⟩
theorem main_1_1 : Claimed_1_1 := comes_1 fun _ _ _ _ _ _ h hF => ⟨h.1, hF⟩
theorem main_1_2 : Claimed_1_2 := comes_1 fun _ _ _ _ _ _ h hF => ⟨h.2.1, hF⟩
end Jvm.Pilot.@@N@@
namespace Jvm.Pilot.@@N@@
open Jvm Jvm.ClassFile Sem Op Lib Jvm.Free Jvm.Stand Jvm.Pilot.@@N@@.Jvm.D
/-! MADE BY PROGRAM (witnessworld.py) out of the Statement's table words and the real class files: 9 classes; the members and pool entries that the words name. The judged class is class 1, her method 1. -/
namespace start1
open Jvm.ClassFile
def u (s : String) : CpInfo := .utf8 (stringToUtf16 s)
/-- a pool by its gaps: so many unusable entries, then the entry; so many at the end -/
def gap : Nat → List CpInfo → List CpInfo
  | 0, r => r
  | n + 1, r => .unusable :: gap n r
def poolList (es : List (Nat × CpInfo)) (last : Nat) : List CpInfo := es.foldr (fun e r => gap e.1 (e.2 :: r)) (gap last [])
def pool (es : List (Nat × CpInfo)) (last : Nat) : Array CpInfo := ⟨poolList es last⟩
def fileOf (pool : Array CpInfo) (this : Nat) (attrs : Array Attribute := #[]) (ms : Array MethodInfo := #[]) (fl : Nat := 33) (sup : Nat := 0) (ifs : Array Nat := #[]) (fds : Array FieldInfo := #[]) : ClassFile where
  minorVersion := 0
  majorVersion := 65
  constantPool := pool
  accessFlags := fl
  thisClass := this
  superClass := sup
  interfaces := ifs
  fields := fds
  methods := ms
  attributes := attrs
def plain (name : String) (sup : Option ClassId) : Class where
  name := name
  kind := .ordinary
  loader := none
  accessFlags := 33
  super := sup
  interfaces := #[]
  cf := none
  fields := #[]
  methods := #[]
  instanceTypes := #[]
  staticTypes := #[]
  resolved := #[]
  callSites := []
  init := .initialized
  statics := none
  mirror := none

def pool0 : Array CpInfo := pool [(5, u "<init>"), (0, u "()V"), (1, .class_ 10), (1, u "java/lang/Object")] 113

def k0m0 : Method := { name := "<init>", desc := "()V", sig := { parameters := [], returnType := none }, accessFlags := 1, code := none }
/-- java/lang/Object -/
def k0 : Class := { plain "java/lang/Object" none with
  accessFlags := 33
  interfaces := #[]
  cf := some (fileOf pool0 8 #[] #[{ accessFlags := 1, nameIndex := 5, descriptorIndex := 6, attributes := #[] }] 33 0 #[] #[])
  fields := #[]
  methods := #[k0m0]
  instanceTypes := #[]
  staticTypes := #[]
  resolved := Array.replicate 124 none
  statics := none }

def pool1 : Array CpInfo := pool [(2, .class_ 4), (1, u "java/lang/Object"), (0, u "<init>"), (0, u "()V"), (0, .integer 2147483647), (0, .methodref 9 10), (0, .class_ 11), (0, .nameAndType 12 13), (0, u "com/example/settle/settle/model/IntArrays"), (0, u "starts"), (0, u "([III)[I"), (0, .methodref 15 16), (0, .class_ 17), (0, .nameAndType 18 19), (0, u "com/example/settle/settle/model/IntArraysStartsPinLaw"), (0, u "check"), (0, u "([I[IIII)Z"), (0, .methodref 15 21), (0, .nameAndType 22 23), (0, u "below"), (0, u "([III)I"), (2, u "law"), (0, u "(IIIIII)Z")] 5

def k1m0 : Method := { name := "<init>", desc := "()V", sig := { parameters := [], returnType := none }, accessFlags := 1, code := none }
def k1c1 : Code := { maxStack := 5, maxLocals := 10, code := code, exceptionTable := #[], attributes := #[] }
def k1m1 : Method := { name := "law", desc := "(IIIIII)Z", sig := { parameters := [.int, .int, .int, .int, .int, .int], returnType := some .boolean }, accessFlags := 9, code := some k1c1 }
def k1c2 : Code := { maxStack := 4, maxLocals := 5, code := method_3_code, exceptionTable := #[], attributes := #[] }
def k1m2 : Method := { name := "check", desc := "([I[IIII)Z", sig := { parameters := [(.array .int), (.array .int), .int, .int, .int], returnType := some .boolean }, accessFlags := 10, code := some k1c2 }
def k1c3 : Code := { maxStack := 2, maxLocals := 4, code := method_4_code, exceptionTable := #[], attributes := #[] }
def k1m3 : Method := { name := "below", desc := "([III)I", sig := { parameters := [(.array .int), .int, .int], returnType := some .int }, accessFlags := 10, code := some k1c3 }
/-- com/example/settle/settle/model/IntArraysStartsPinLaw -/
def k1 : Class := { plain "com/example/settle/settle/model/IntArraysStartsPinLaw" (some 0) with
  accessFlags := 49
  interfaces := #[]
  cf := some (fileOf pool1 15 #[] #[{ accessFlags := 1, nameIndex := 5, descriptorIndex := 6, attributes := #[] }, { accessFlags := 9, nameIndex := 26, descriptorIndex := 27, attributes := #[] }, { accessFlags := 10, nameIndex := 18, descriptorIndex := 19, attributes := #[] }, { accessFlags := 10, nameIndex := 22, descriptorIndex := 23, attributes := #[] }] 49 2 #[] #[])
  fields := #[]
  methods := #[k1m0, k1m1, k1m2, k1m3]
  instanceTypes := #[]
  staticTypes := #[]
  resolved := Array.replicate 33 none
  statics := none }

def pool2 : Array CpInfo := pool [(4, .class_ 6), (1, u "java/lang/Object"), (0, u "<init>"), (0, u "()V"), (0, .class_ 10), (0, u "com/example/settle/settle/model/IntArrays"), (24, u "LONGEST"), (0, u "I"), (9, u "starts"), (0, u "([III)[I")] 4

def k2m0 : Method := { name := "<init>", desc := "()V", sig := { parameters := [], returnType := none }, accessFlags := 2, code := none }
def k2c1 : Code := { maxStack := 5, maxLocals := 5, code := prog_52_method_3_code, exceptionTable := #[], attributes := #[] }
def k2m1 : Method := { name := "starts", desc := "([III)[I", sig := { parameters := [(.array .int), .int, .int], returnType := some (.array .int) }, accessFlags := 8, code := some k2c1 }
/-- com/example/settle/settle/model/IntArrays -/
def k2 : Class := { plain "com/example/settle/settle/model/IntArrays" (some 0) with
  accessFlags := 32
  interfaces := #[]
  cf := some (fileOf pool2 9 #[] #[{ accessFlags := 2, nameIndex := 7, descriptorIndex := 8, attributes := #[] }, { accessFlags := 8, nameIndex := 46, descriptorIndex := 47, attributes := #[] }] 32 4 #[] #[{ accessFlags := 24, nameIndex := 35, descriptorIndex := 36, attributes := #[] }])
  fields := #[{ name := "LONGEST", type := .int, accessFlags := 24, slot := 0, constantValue := 0 }]
  methods := #[k2m0, k2m1]
  instanceTypes := #[]
  staticTypes := #[.int]
  resolved := Array.replicate 52 none
  statics := none }

def pool3 : Array CpInfo := pool [(1, u "java/lang/Cloneable"), (0, .class_ 1), (0, u "java/lang/Object"), (0, .class_ 3)] 3

/-- java/lang/Cloneable -/
def k3 : Class := { plain "java/lang/Cloneable" (some 0) with
  accessFlags := 1537
  interfaces := #[]
  cf := some (fileOf pool3 2 #[] #[] 1537 4 #[] #[])
  fields := #[]
  methods := #[]
  instanceTypes := #[]
  staticTypes := #[]
  resolved := Array.replicate 8 none
  statics := none }

def pool4 : Array CpInfo := pool [(1, u "java/io/Serializable"), (0, .class_ 1), (0, u "java/lang/Object"), (0, .class_ 3)] 3

/-- java/io/Serializable -/
def k4 : Class := { plain "java/io/Serializable" (some 0) with
  accessFlags := 1537
  interfaces := #[]
  cf := some (fileOf pool4 2 #[] #[] 1537 4 #[] #[])
  fields := #[]
  methods := #[]
  instanceTypes := #[]
  staticTypes := #[]
  resolved := Array.replicate 8 none
  statics := none }

/-- the primitive byte -/
def k5 : Class := { plain "byte" none with kind := .primitive 'B', accessFlags := 0x411 }
/-- [B -/
def k6 : Class := { plain "[B" (some 0) with kind := .array 5 .byte, interfaces := #[3, 4], accessFlags := 1041 }

/-- the primitive int -/
def k7 : Class := { plain "int" none with kind := .primitive 'I', accessFlags := 0x411 }
/-- [I -/
def k8 : Class := { plain "[I" (some 0) with kind := .array 7 .int, interfaces := #[3, 4], accessFlags := 1041 }

def heap : Heap := #[]
def classes : Array Class := #[k0, k1, k2, k3, k4, k5, k6, k7, k8]
def interned : List (Array UInt16 × Addr) := []
def slotsUsed : Nat := 0
def theMethod : MethodId := ⟨1, 1⟩
def args0 : Array Value := #[.int 3, .int 2, .int 1, .int 2, .int 5, .int 6]
def aboutOver (below : List Frame) : State where
  vm := { classes := classes, interned := interned.toArray }
  heap := heap
  slotsUsed := slotsUsed
  threads := #[{ frames := .invoking theMethod args0 :: below }]
def below0 : List Frame := [.native { method := ⟨0, 0⟩, args := #[] }]
def about1 : State := aboutOver below0
def p0 : Program := .bare "" "" ""
def e0 : Env := launch0.env 0 0 0
theorem w_frames : about1.frames = Frame.invoking theMethod args0 :: below0 := rfl
set_option maxRecDepth 65536 in
theorem w_args : argsFit about1.vm theMethod args0 = true := by decide +kernel
set_option maxRecDepth 65536 in
theorem w_heap : heapFits about1 = true := by decide +kernel
set_option maxRecDepth 65536 in
theorem w_runnable : about1.curStatus? = some .runnable := by decide +kernel
set_option maxRecDepth 65536 in
theorem w_alone : about1.alone = true := by decide +kernel
set_option maxRecDepth 65536 in
theorem w_named : about1.methodNamed? x = some theMethod := by decide +kernel
set_option maxRecDepth 65536 in
theorem w_hears : about1.hears theMethod below0 = true := by decide +kernel
set_option maxRecDepth 65536 in
theorem w_ripe : about1.ripe theMethod args0 below0 = true := by decide +kernel
theorem w_running : about1.status = .running := rfl
set_option maxRecDepth 65536 in
theorem w_room : about1.hasRoom e0.platform room_1 = true :=
  launch0.hasRoom_least _ room_1 (by decide +kernel) (by decide +kernel) (by decide +kernel) (by decide +kernel) (by decide +kernel) (by decide +kernel)
theorem allAtoms_all (ts : List Jvm.Cond) (a : Array Jvm.Value) (st : Jvm.State) : (allAtoms ts).before a st = ts.all (fun c => c.before a st) := by
  induction ts with
  | nil => rfl
  | cons c t ih =>
    show (Jvm.Cond.and c (allAtoms t)).before a st = _
    rw [Jvm.Cond.before_and, ih, List.all_cons]
def words1 : List Jvm.Cond := Jvm.Cond.code x code maxLocals ret :: tables_1
/-- a 'code' word, met by the world's own term for the bytes: nothing is compared byte by byte -/
theorem code_word {y : MethodName} {bytes : ByteArray} {mx : Nat} {rt : Option FieldType} {a : Array Value} {s : State} {m : MethodId} {meth : Method} {c : Code} (h1 : s.methodNamed? y = some m) (h2 : s.vm.method? m = some meth) (h3 : meth.code = some c) (h4 : c.code = bytes)
    (h5 : (c.maxLocals == mx && c.exceptionTable.isEmpty && decide (c.maxStack ≤ mostOperands) && decide (meth.sig.returnType = rt) && !meth.locks && decide (parseMethodDescriptor y.desc = some meth.sig)) = true) : (Jvm.Cond.code y bytes mx rt).before a s = true := by
  simp only [Bool.and_eq_true, beq_iff_eq, Bool.not_eq_true', decide_eq_true_eq] at h5
  obtain ⟨⟨⟨⟨⟨g1, g2⟩, g3⟩, g4⟩, g5⟩, g6⟩ := h5
  simp [Cond.before, Cond.holds, Cond.value, h1, h2, h3, h4, g1, g2, g3, g4, g5, g6]
def isCode : Jvm.Cond → Bool
  | .code _ _ _ _ => true
  | _ => false
theorem all_split {L : List Jvm.Cond} {P : Jvm.Cond → Bool} (h1 : L.all (fun c => isCode c || P c) = true) (h2 : ∀ c ∈ L.filter isCode, P c = true) : L.all P = true := by
  refine List.all_eq_true.mpr fun c hc => ?_
  have h := List.all_eq_true.mp h1 c hc
  rcases Bool.eq_false_or_eq_true (isCode c) with hi | hi
  · exact h2 c (List.mem_filter.mpr ⟨hc, hi⟩)
  · simpa [hi] using h
set_option maxRecDepth 65536 in
theorem w_c0 : (Jvm.Cond.code x code maxLocals ret).before args0 about1 = true := code_word (m := ⟨1, 1⟩) (meth := k1m1) (c := k1c1) (by decide +kernel) rfl rfl rfl (by decide +kernel)
set_option maxRecDepth 65536 in
theorem w_c1 : (Jvm.Cond.code ({ cls := "com/example/settle/settle/model/IntArrays", name := "starts", desc := "([III)[I" } : Jvm.MethodName) prog_52_method_3_code (5 : Nat) (Option.some (Jvm.ClassFile.FieldType.array Jvm.ClassFile.FieldType.int))).before args0 about1 = true := code_word (m := ⟨2, 1⟩) (meth := k2m1) (c := k2c1) (by decide +kernel) rfl rfl rfl (by decide +kernel)
set_option maxRecDepth 65536 in
theorem w_c2 : (Jvm.Cond.code ({ cls := "com/example/settle/settle/model/IntArraysStartsPinLaw", name := "check", desc := "([I[IIII)Z" } : Jvm.MethodName) method_3_code (5 : Nat) (Option.some Jvm.ClassFile.FieldType.boolean)).before args0 about1 = true := code_word (m := ⟨1, 2⟩) (meth := k1m2) (c := k1c2) (by decide +kernel) rfl rfl rfl (by decide +kernel)
set_option maxRecDepth 65536 in
theorem w_c3 : (Jvm.Cond.code ({ cls := "com/example/settle/settle/model/IntArraysStartsPinLaw", name := "below", desc := "([III)I" } : Jvm.MethodName) method_4_code (4 : Nat) (Option.some Jvm.ClassFile.FieldType.int)).before args0 about1 = true := code_word (m := ⟨1, 3⟩) (meth := k1m3) (c := k1c3) (by decide +kernel) rfl rfl rfl (by decide +kernel)
def codes1 : List Jvm.Cond := [Jvm.Cond.code x code maxLocals ret, Jvm.Cond.code ({ cls := "com/example/settle/settle/model/IntArrays", name := "starts", desc := "([III)[I" } : Jvm.MethodName) prog_52_method_3_code (5 : Nat) (Option.some (Jvm.ClassFile.FieldType.array Jvm.ClassFile.FieldType.int)), Jvm.Cond.code ({ cls := "com/example/settle/settle/model/IntArraysStartsPinLaw", name := "check", desc := "([I[IIII)Z" } : Jvm.MethodName) method_3_code (5 : Nat) (Option.some Jvm.ClassFile.FieldType.boolean), Jvm.Cond.code ({ cls := "com/example/settle/settle/model/IntArraysStartsPinLaw", name := "below", desc := "([III)I" } : Jvm.MethodName) method_4_code (4 : Nat) (Option.some Jvm.ClassFile.FieldType.int)]
set_option maxRecDepth 65536 in
theorem codes_eq : words1.filter isCode = codes1 := rfl
theorem w_codes : ∀ c ∈ words1.filter isCode, c.before args0 about1 = true := by
  rw [codes_eq]
  intro c hc
  simp only [codes1, List.mem_cons, List.not_mem_nil, or_false] at hc
  rcases hc with rfl | rfl | rfl | rfl
  · exact w_c0
  · exact w_c1
  · exact w_c2
  · exact w_c3
set_option maxRecDepth 65536 in
theorem w_t1 : words1.all (fun c => isCode c || c.before args0 about1) = true := by decide +kernel
theorem w_tables : (allAtoms (Jvm.Cond.code x code maxLocals ret :: tables_1)).before args0 about1 = true := by
  rw [allAtoms_all]
  show words1.all (fun c => c.before args0 about1) = true
  refine all_split ?_ w_codes
  rw [w_t1]
set_option maxRecDepth 65536 in
theorem w_case : (Jvm.Cond.and given_1 narrow_1).before args0 about1 = true := by decide +kernel
theorem w_applies : (headSpec (Jvm.Cond.code x code maxLocals ret :: tables_1) room_1).applies x e0.platform about1 = true :=
  (Spec.applies_iff w_frames).mpr ⟨w_running, w_runnable, w_alone, w_named, w_hears, w_ripe, w_room, w_tables⟩
theorem atStart : AtStart classFile x code maxLocals ret World_1 tables_1 room_1 Calls_1 rest_1 Pre_1 launch0 p0 e0 about1 theMethod args0 below0 :=
  ⟨lists_1, trivial, launch0.admits_env _ _ _, launch0.least_env, fairChoices_fair.cas, fairChoices_fair.clock, w_frames, w_args, w_heap, w_applies, trivial, trivial, w_case⟩
end start1
theorem witness_1 : WitnessClaimed_1 := ⟨start1.p0, start1.e0, start1.about1, start1.theMethod, start1.args0, start1.below0, start1.atStart⟩
end Jvm.Pilot.@@N@@
