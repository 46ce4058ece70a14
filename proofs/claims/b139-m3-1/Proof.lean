import JvmDerived
import JvmDerived.Pilot.@@N@@Statement
import JvmDerived.Pilot.@@N@@Code
set_option linter.unusedVariables false
set_option linter.unusedSimpArgs false
namespace Jvm.Own
open Sem ClassFile Op Lib Jvm.Stand Jvm.Free Jvm.LawKit Jvm.RoadKit
/-- from the frame f over T the run ends in a return that Q speaks of -/
def Run (p : Program) (e : Env) (s : State) (below : List Frame) (Q : Option Value → Heap → List Loc → Prop) (cm sm : Nat) (T : State) (f : JFrame) : Prop :=
  ∃ s₂ o, Steps p.tables e below (T.setTop f) s₂ ∧ s₂.status = .running ∧ Ended s₂ below o ∧ ∃ v L, o = .returned v ∧ Q v s₂.heap L ∧ FrameEnd s o s₂ L cm sm
section Own
variable {p : Program} {l : Launch} {e : Env} {R : Room} {s : State} {m : MethodId} {args : Array Value} {below : List Frame} {meth : Method} {c : Code} {T : State} {locs : List Loc} {cells slots : Nat} {Q : Option Value → Heap → List Loc → Prop} {cm sm : Nat}
theorem go {T' : State} {f f' : JFrame} (st : ∀ target, Steps p.tables e below (T'.setTop f') target → Steps p.tables e below (T.setTop f) target) (k : Run p e s below Q cm sm T' f') : Run p e s below Q cm sm T f := by
  obtain ⟨s₂, o, h, r⟩ := k
  exact ⟨s₂, o, st _ h, r⟩
theorem retZ (X : Stand p l e R s m args below meth c T locs cells slots) (hx : p.tables.exec = Jvm.exec) {pc : Nat} {Ls : Array Slot} {z : Int32} {t : FieldType} {rest : List Value} (hret : meth.sig.returnType = some t) (ht : t = .boolean ∨ t = .byte ∨ t = .char ∨ t = .short)
    (hd : decode c.code pc = .ok (.ireturn, 1)) (hlk : meth.locks = false) (hc : cells ≤ cm) (hs : slots ≤ sm) (hq : Q (some (.int (nar t z))) T.heap locs) : Run p e s below Q cm sm T (mkF m pc Ls (.int z :: rest)) := by
  obtain ⟨fs, hr, hrun, hended, hW, hsame⟩ := X.leave (v := some (.int (nar t z))) (fun h => by rw [hret] at h; cases h) hlk
  exact ⟨_, _, retN X hx hret ht hd hr, hrun, hended, _, _, rfl, hq, ⟨_, rfl⟩, hW, hsame.mono hc hs⟩
theorem retW (X : Stand p l e R s m args below meth c T locs cells slots) (hx : p.tables.exec = Jvm.exec) {pc : Nat} {Ls : Array Slot} {w : Value} {t : FieldType} {i : Instr} {rest : List Value} (hret : meth.sig.returnType = some t) (hn : narrow t w = w)
    (hi : (i = .ireturn ∧ (t = .int ∨ t = .boolean ∨ t = .byte ∨ t = .char ∨ t = .short) ∧ ∃ z, w = .int z) ∨ (i = .lreturn ∧ t = .long ∧ ∃ z, w = .long z) ∨ (i = .dreturn ∧ t = .double ∧ ∃ z, w = .double z) ∨ (i = .freturn ∧ t = .float ∧ ∃ z, w = .float z) ∨ (i = .areturn ∧ t.isReference = true ∧ w.isRef = true))
    (hd : decode c.code pc = .ok (i, 1)) (hlk : meth.locks = false) (hc : cells ≤ cm) (hs : slots ≤ sm) (hq : Q (some w) T.heap locs) : Run p e s below Q cm sm T (mkF m pc Ls (w :: rest)) := by
  obtain ⟨fs, hr, hrun, hended, hW, hsame⟩ := X.leave (v := some w) (fun h => by rw [hret] at h; cases h) hlk
  exact ⟨_, _, retOut X hx hret hn hi hd hr, hrun, hended, _, _, rfl, hq, ⟨_, rfl⟩, hW, hsame.mono hc hs⟩
theorem retV (X : Stand p l e R s m args below meth c T locs cells slots) (hx : p.tables.exec = Jvm.exec) {pc : Nat} {Ls : Array Slot} (hret : meth.sig.returnType = none)
    (hd : decode c.code pc = .ok (.return_, 1)) (hlk : meth.locks = false) (hc : cells ≤ cm) (hs : slots ≤ sm) (hq : Q none T.heap locs) : Run p e s below Q cm sm T (mkF m pc Ls []) := by
  obtain ⟨fs, hr, hrun, hended, hW, hsame⟩ := X.leave (v := none) (fun _ => rfl) hlk
  exact ⟨_, _, X.returnOut hx hret hd hr, hrun, hended, _, _, rfl, hq, ⟨_, rfl⟩, hW, hsame.mono hc hs⟩
end Own
section Heap
variable {Z : State} {h h' h0 : Heap} {a b : Addr} {ty : FieldType} {vs : List Value} {ws ws' : List Addr} {v : Value} {k : ClassId} {z j : Int32}
/-- an array and all that it holds -/
def Ary (Z : State) (h : Heap) (a : Addr) (ty : FieldType) (vs : List Value) : Prop := ∃ c : Cell, Arr Z h a c ty ∧ c.slots.toList = vs ∧ vs.length < 2147483648 ∧ ∀ v ∈ vs, fits ty v = true
theorem Ary.lt (A : Ary Z h a ty vs) : a < h.size := by obtain ⟨c, A, -⟩ := A; exact A.lt
theorem Ary.ext (A : Ary Z h a ty vs) (E : Ext h h') : Ary Z h' a ty vs := by obtain ⟨c, A, r⟩ := A; exact ⟨c, A.ext E, r⟩
theorem Ary.keep (A : Ary Z h a ty vs) (K : Keep h h' ws) (q : a ∉ ws) : Ary Z h' a ty vs := by obtain ⟨c, A, r⟩ := A; exact ⟨c, ⟨K.2.1 a c A.1 q, A.2⟩, r⟩
theorem Ary.set (A : Ary Z h a ty vs) {i : Nat} (W : Wr h h' a i v) (hv : fits ty v = true) : Ary Z h' a ty (vs.set i v) := by
  obtain ⟨c, A, e, l, f⟩ := A
  refine ⟨_, A.same W, by simp [Cell.setSlot, e], by simpa using l, fun w hw => ?_⟩
  rcases List.mem_or_eq_of_mem_set hw with q | rfl
  · exact f w q
  · exact hv
theorem Ary.ld (A : Ary Z h a ty vs) (hj : ¬ j < 0) (hv : vs[j.toNatClampNeg]? = some v) : ∃ c : Cell, Arr Z h a c ty ∧ ¬ (j < 0 ∨ c.slots.size ≤ j.toNatClampNeg) ∧ c.slots[j.toNatClampNeg]? = some v := by
  obtain ⟨c, A, e, l, f⟩ := A
  have q : c.slots[j.toNatClampNeg]? = some v := by rw [← Array.getElem?_toList, e]; exact hv
  exact ⟨c, A, fun r => r.elim hj fun y => absurd (Array.getElem?_eq_some_iff.mp q).1 (Nat.not_lt.mpr y), q⟩
theorem Ary.st (A : Ary Z h a ty vs) (hj : ¬ j < 0) (hl : j.toNatClampNeg < vs.length) : ∃ c : Cell, Arr Z h a c ty ∧ ¬ (j < 0 ∨ c.slots.size ≤ j.toNatClampNeg) := by
  obtain ⟨c, A, e, l, f⟩ := A
  refine ⟨c, A, fun r => r.elim hj fun y => ?_⟩
  rw [← e, Array.length_toList] at hl
  omega
theorem Ary.len (A : Ary Z h a ty vs) : ∃ c : Cell, Arr Z h a c ty ∧ c.slots.size.toInt32 = vs.length.toInt32 := by
  obtain ⟨c, A, e, l, f⟩ := A
  exact ⟨c, A, by rw [← e, Array.length_toList]⟩
theorem Ary.new (A : Arr Z h a (newA k ty z) ty) : Ary Z h a ty (List.replicate z.toNatClampNeg (defaultValue ty)) := by
  refine ⟨_, A, by simp [newA], ?_, fun v hv => ?_⟩
  · rw [List.length_replicate]
    have := Int32.toInt_lt z
    simp only [Int32.toNatClampNeg]
    omega
  · rw [List.eq_of_mem_replicate hv]
    cases ty <;> rfl
theorem Ary.fit (A : Ary Z h a ty vs) : ∃ c : Cell, Arr Z h a c ty ∧ FitC Z c ∧ c.slots.toList = vs ∧ c.slots.size = vs.length ∧ ∀ (h' : Heap) (b : Addr), Arr Z h' b (cloneOf c) ty → Ary Z h' b ty vs := by
  obtain ⟨c, A, e, l, f⟩ := A
  refine ⟨c, A, fitC_of A fun i hi v hv => ?_, e, by rw [← e, Array.length_toList], fun _ _ B => ⟨_, B, e, l, f⟩⟩
  refine f v ?_
  rw [← e]
  exact List.mem_of_getElem? (by rw [Array.getElem?_toList]; exact hv)
theorem ldI {p : Program} {l : Launch} {e : Env} {R : Room} {s : State} {m : MethodId} {args : Array Value} {below : List Frame} {meth : Method} {c : Code} {T : State} {locs : List Loc} {cells slots : Nat} (X : Stand p l e R s m args below meth c T locs cells slots) (hx : p.tables.exec = Jvm.exec) (hZ : Z.Warmed39 s.vm) (eT : T.heap = h) (A : Ary Z h a .int vs) (hj : ¬ j < 0) (hv : vs[j.toNatClampNeg]? = some v) {g : JFrame} (hg : g.method = m) {rest : List Value} (hs : g.stack = .int j :: .ref a :: rest) (hd : decode c.code g.pc = .ok (.iaload, 1)) (target : State)
    (hr : Steps p.tables e below (T.setTop { g with pc := g.pc + 1, stack := v :: rest }) target) : Steps p.tables e below (T.setTop g) target := by
  obtain ⟨cl, Ar, hin, hat⟩ := A.ld hj hv
  exact X.iaload hx (by rw [eT]; exact Ar.1) (State.isArrayOf_alike hZ.alike Ar.2.1) Ar.2.2 hin hat hg hs hd target hr
theorem ldJ {p : Program} {l : Launch} {e : Env} {R : Room} {s : State} {m : MethodId} {args : Array Value} {below : List Frame} {meth : Method} {c : Code} {T : State} {locs : List Loc} {cells slots : Nat} (X : Stand p l e R s m args below meth c T locs cells slots) (hx : p.tables.exec = Jvm.exec) (hZ : Z.Warmed39 s.vm) (eT : T.heap = h) (A : Ary Z h a .long vs) (hj : ¬ j < 0) (hv : vs[j.toNatClampNeg]? = some v) {g : JFrame} (hg : g.method = m) {rest : List Value} (hs : g.stack = .int j :: .ref a :: rest) (hd : decode c.code g.pc = .ok (.laload, 1)) (target : State)
    (hr : Steps p.tables e below (T.setTop { g with pc := g.pc + 1, stack := v :: rest }) target) : Steps p.tables e below (T.setTop g) target := by
  obtain ⟨cl, Ar, hin, hat⟩ := A.ld hj hv
  exact X.laload hx (by rw [eT]; exact Ar.1) (State.isArrayOf_alike hZ.alike Ar.2.1) Ar.2.2 hin hat hg hs hd target hr
theorem ldC {p : Program} {l : Launch} {e : Env} {R : Room} {s : State} {m : MethodId} {args : Array Value} {below : List Frame} {meth : Method} {c : Code} {T : State} {locs : List Loc} {cells slots : Nat} (X : Stand p l e R s m args below meth c T locs cells slots) (hx : p.tables.exec = Jvm.exec) (hZ : Z.Warmed39 s.vm) (eT : T.heap = h) (A : Ary Z h a .char vs) (hj : ¬ j < 0) (hv : vs[j.toNatClampNeg]? = some v) {g : JFrame} (hg : g.method = m) {rest : List Value} (hs : g.stack = .int j :: .ref a :: rest) (hd : decode c.code g.pc = .ok (.caload, 1)) (target : State)
    (hr : Steps p.tables e below (T.setTop { g with pc := g.pc + 1, stack := v :: rest }) target) : Steps p.tables e below (T.setTop g) target := by
  obtain ⟨cl, Ar, hin, hat⟩ := A.ld hj hv
  exact X.caload hx (by rw [eT]; exact Ar.1) (State.isArrayOf_alike hZ.alike Ar.2.1) Ar.2.2 hin hat hg hs hd target hr
theorem ldB {p : Program} {l : Launch} {e : Env} {R : Room} {s : State} {m : MethodId} {args : Array Value} {below : List Frame} {meth : Method} {c : Code} {T : State} {locs : List Loc} {cells slots : Nat} (X : Stand p l e R s m args below meth c T locs cells slots) (hx : p.tables.exec = Jvm.exec) (hZ : Z.Warmed39 s.vm) (eT : T.heap = h) (A : Ary Z h a .byte vs) (hj : ¬ j < 0) (hv : vs[j.toNatClampNeg]? = some v) {g : JFrame} (hg : g.method = m) {rest : List Value} (hs : g.stack = .int j :: .ref a :: rest) (hd : decode c.code g.pc = .ok (.baload, 1)) (target : State)
    (hr : Steps p.tables e below (T.setTop { g with pc := g.pc + 1, stack := v :: rest }) target) : Steps p.tables e below (T.setTop g) target := by
  obtain ⟨cl, Ar, hin, hat⟩ := A.ld hj hv
  exact X.baloadBytes hx (by rw [eT]; exact Ar.1) (State.isArrayOf_alike hZ.alike Ar.2.1) Ar.2.2 hin hat hg hs hd target hr
theorem ldZ {p : Program} {l : Launch} {e : Env} {R : Room} {s : State} {m : MethodId} {args : Array Value} {below : List Frame} {meth : Method} {c : Code} {T : State} {locs : List Loc} {cells slots : Nat} (X : Stand p l e R s m args below meth c T locs cells slots) (hx : p.tables.exec = Jvm.exec) (hZ : Z.Warmed39 s.vm) (eT : T.heap = h) (A : Ary Z h a .boolean vs) (hj : ¬ j < 0) (hv : vs[j.toNatClampNeg]? = some v) {g : JFrame} (hg : g.method = m) {rest : List Value} (hs : g.stack = .int j :: .ref a :: rest) (hd : decode c.code g.pc = .ok (.baload, 1)) (target : State)
    (hr : Steps p.tables e below (T.setTop { g with pc := g.pc + 1, stack := v :: rest }) target) : Steps p.tables e below (T.setTop g) target := by
  obtain ⟨cl, Ar, hin, hat⟩ := A.ld hj hv
  exact X.baloadBooleans hx (by rw [eT]; exact Ar.1) (State.isArrayOf_alike hZ.alike Ar.2.1) Ar.2.2 hin hat hg hs hd target hr
theorem ldR {p : Program} {l : Launch} {e : Env} {R : Room} {s : State} {m : MethodId} {args : Array Value} {below : List Frame} {meth : Method} {c : Code} {T : State} {locs : List Loc} {cells slots : Nat} (X : Stand p l e R s m args below meth c T locs cells slots) (hx : p.tables.exec = Jvm.exec) (hZ : Z.Warmed39 s.vm) (eT : T.heap = h) (A : Ary Z h a ty vs) (ht : ty.isReference = true) (hj : ¬ j < 0) (hv : vs[j.toNatClampNeg]? = some v) {g : JFrame} (hg : g.method = m) {rest : List Value} (hs : g.stack = .int j :: .ref a :: rest) (hd : decode c.code g.pc = .ok (.aaload, 1)) (target : State)
    (hr : Steps p.tables e below (T.setTop { g with pc := g.pc + 1, stack := v :: rest }) target) : Steps p.tables e below (T.setTop g) target := by
  obtain ⟨cl, Ar, hin, hat⟩ := A.ld hj hv
  exact X.aaload hx (by rw [eT]; exact Ar.1) (State.isArrayOf_alike hZ.alike Ar.2.1) ht Ar.2.2 hin hat hg hs hd target hr
theorem alen {p : Program} {l : Launch} {e : Env} {R : Room} {s : State} {m : MethodId} {args : Array Value} {below : List Frame} {meth : Method} {c : Code} {T : State} {locs : List Loc} {cells slots : Nat} (X : Stand p l e R s m args below meth c T locs cells slots) (hx : p.tables.exec = Jvm.exec) (hZ : Z.Warmed39 s.vm) (eT : T.heap = h) (A : Ary Z h a ty vs) (hn : vs.length.toInt32 = z) {g : JFrame} (hg : g.method = m) {rest : List Value} (hs : g.stack = .ref a :: rest) (hd : decode c.code g.pc = .ok (.arraylength, 1)) (target : State)
    (hr : Steps p.tables e below (T.setTop { g with pc := g.pc + 1, stack := .int z :: rest }) target) : Steps p.tables e below (T.setTop g) target := by
  obtain ⟨cl, Ar, ln⟩ := A.len
  exact X.arraylength hx (by rw [eT]; exact Ar.1) (State.isArrayOf_alike hZ.alike Ar.2.1) hg hs hd target (by rw [ln.trans hn]; exact hr)
theorem getI {xs : List Int32} {i : Nat} (q : i < xs.length) : (xs.map Value.int)[i]? = some (.int (xs.getD i 0)) := by
  simp [List.getElem?_map, List.getD_eq_getElem?_getD, List.getElem?_eq_getElem q]
theorem setI {xs : List Int32} {i : Nat} {x : Int32} : (xs.map Value.int).set i (.int x) = (xs.set i x).map Value.int := List.map_set.symm
/-- an array made over the class C -/
def OvA (Z : State) (h : Heap) (a : Addr) (C : String) : Prop := ∃ c : Cell, h[a]? = some c ∧ Ovr Z c.cls C
theorem OvA.keep {C : String} (O : OvA Z h a C) (K : Keep h h' ws) : OvA Z h' a C := by
  obtain ⟨c, e, o⟩ := O
  obtain ⟨c', q, r1, -, -⟩ := K.2.2 a c e
  exact ⟨c', q, r1 ▸ o⟩
theorem stA {C : String} {y : Addr} (O : OvA Z h a C) (A : Ary Z h a ty vs) (I : Ins Z h y C true) : Sto Z h a (.ref y) := by
  obtain ⟨c, A, -⟩ := A
  obtain ⟨c', e, o⟩ := O
  cases A.1.symm.trans e
  exact Sto.of A o I
theorem eqi_v {args : Array Value} {first s : State} {o : Option Outcome} {idx : List Nat} {t : Term} {k : Int32} (q : (Cond.eq t (.int k)).value args first o s idx = some true) : t.eval args first o idx s = some (.int k) := by
  simp only [Cond.value, Term.eval] at q
  cases ht : t.eval args first o idx s with
  | none => simp [ht] at q
  | some x => cases x <;> simp [ht] at q ⊢; exact q
theorem ary_start {args : Array Value} {s : State} {t : Term} {ty : FieldType} {a : Addr} {n : Int32} {vs : List Value} (hf : Fit s) (ev : t.eval args s none [] s = some (.ref a)) (ha : (Cond.arrayOf t ty).value args s none s [] = some true) (hl : (Cond.eq (.length t) (.int n)).value args s none s [] = some true) (hn : n = vs.length.toInt32) (hs : vs.length < 2147483648)
    (he : ∀ i, i < vs.length → (Term.elem t (.int i.toInt32)).eval args s none [] s = vs[i]?) : Ary s s.heap a ty vs := by
  obtain ⟨cl, A⟩ := Arr.start ev ha
  have hA := A.fin (Vm.Alike.refl _)
  have e1 := eqi_v hl
  have hsz : cl.slots.size < 2147483648 := by
    refine Nat.lt_of_not_le fun q => ?_
    have : ¬ cl.slots.size < 2 ^ 31 := by omega
    simp [Term.eval, ev, hA, this] at e1
  have e2 := len_f (idx := []) ev hA (by omega)
  rw [e1] at e2
  have e3 : n = cl.slots.size.toInt32 := by simpa using e2
  have e4 : cl.slots.size = vs.length := by
    have q := hn.symm.trans e3
    have q1 : vs.length.toInt32.toInt = vs.length := len_toInt (by omega)
    have q2 : cl.slots.size.toInt32.toInt = cl.slots.size := len_toInt (by omega)
    rw [q, q2] at q1
    omega
  have e5 : ∀ i, i < vs.length → cl.slots[i]? = vs[i]? := fun i hi => by
    have q := he i hi
    rw [List.getElem?_eq_getElem hi] at q
    have r := (elem_in q ev (Term.int_eval _) A.1).2
    have e : i.toInt32.toNatClampNeg = i := by simp only [Int32.toNatClampNeg, len_toInt (show i < 2 ^ 31 by omega)]; rfl
    rw [e] at r
    rw [r, List.getElem?_eq_getElem hi]
  refine ⟨cl, A, ?_, hs, fun v hv => ?_⟩
  · refine List.ext_getElem? fun i => ?_
    rw [Array.getElem?_toList]
    by_cases hi : i < vs.length
    · exact e5 i hi
    · rw [Array.getElem?_eq_none (by omega), List.getElem?_eq_none (by omega)]
  · obtain ⟨i, hi, rfl⟩ := List.getElem_of_mem hv
    have r := e5 i hi
    rw [List.getElem?_eq_getElem hi] at r
    have e : i.toInt32.toNatClampNeg = i := by simp only [Int32.toNatClampNeg, len_toInt (show i < 2 ^ 31 by omega)]; rfl
    exact elem_fits (j := i.toInt32) hf A (idx_in (by omega) (by omega)) (by rw [e]; exact r)
theorem nin1 {x y : Addr} (q : x ≠ y) : x ∉ [y] := ninS q nin0
end Heap
end Jvm.Own
namespace Jvm.Pilot.@@N@@
open Jvm Jvm.ClassFile Sem Op Lib Jvm.Free Jvm.Stand Jvm.LawKit Jvm.RoadKit Jvm.Own Bundle Jvm.Pilot.@@N@@.Jvm.D
theorem d1_0 : decode prog_43_method_6_code 0 = .ok (.iconst 3, 1) := by decide +kernel
theorem d1_1 : decode prog_43_method_6_code 1 = .ok (.anewarray 1, 3) := by decide +kernel
theorem d1_4 : decode prog_43_method_6_code 4 = .ok (.dup, 1) := by decide +kernel
theorem d1_5 : decode prog_43_method_6_code 5 = .ok (.iconst 0, 1) := by decide +kernel
theorem d1_6 : decode prog_43_method_6_code 6 = .ok (.getstatic 3, 3) := by decide +kernel
theorem d1_9 : decode prog_43_method_6_code 9 = .ok (.aastore, 1) := by decide +kernel
theorem d1_10 : decode prog_43_method_6_code 10 = .ok (.dup, 1) := by decide +kernel
theorem d1_11 : decode prog_43_method_6_code 11 = .ok (.iconst 1, 1) := by decide +kernel
theorem d1_12 : decode prog_43_method_6_code 12 = .ok (.getstatic 10, 3) := by decide +kernel
theorem d1_15 : decode prog_43_method_6_code 15 = .ok (.aastore, 1) := by decide +kernel
theorem d1_16 : decode prog_43_method_6_code 16 = .ok (.dup, 1) := by decide +kernel
theorem d1_17 : decode prog_43_method_6_code 17 = .ok (.iconst 2, 1) := by decide +kernel
theorem d1_18 : decode prog_43_method_6_code 18 = .ok (.getstatic 13, 3) := by decide +kernel
theorem d1_21 : decode prog_43_method_6_code 21 = .ok (.aastore, 1) := by decide +kernel
theorem d1_22 : decode prog_43_method_6_code 22 = .ok (.areturn, 1) := by decide +kernel
theorem pn_1 : plainName "com/example/vestwright/vestwright/plan/Event" = true := by first | (simp [plainName, overriddenIn]; done) | decide +kernel
theorem ef_1 (m : MethodId)  : entryFrame m #[] 0 = mkF m 0 #[] [] := by first | (simp [entryFrame, mkF, argsToLocals, Value.category]; done) | rfl
def Q1 (Z : State) (c0 c2 c3 : Addr) (h0 : Heap) (n0 : Nat) (v : Option Value) (h : Heap) (L : List Loc) : Prop := ∃ r : Addr, v = some (.ref r) ∧ h0.size ≤ r ∧ Fr n0 L ∧ Keep h0 h [] ∧ Ary Z h r (.object "com/example/vestwright/vestwright/plan/Event") [(.ref c0), (.ref c2), (.ref c3)] ∧ OvA Z h r "com/example/vestwright/vestwright/plan/Event"
set_option maxRecDepth 65536 in
set_option maxHeartbeats 40000000 in
theorem rm1 (l : Launch) (Z : State) (aw : Array Value) (hw : ∀ d ∈ tables_1, d.before aw Z = true) (ws : List Jvm.Cond) (c0 c2 c3 : Addr) (h0 : Heap) (n0 : Nat) (Z0 : n0 ≤ h0.size) (O0 : Old Z n0 h0) (S_0 : Sta Z Z.heap "com/example/vestwright/vestwright/plan/Event" "RETIREMENT" "Lcom/example/vestwright/vestwright/plan/Event;" (.ref c0)) (E_0 : Exa Z Z.heap c0 "com/example/vestwright/vestwright/plan/Event") (S_2 : Sta Z Z.heap "com/example/vestwright/vestwright/plan/Event" "DATE_CERTAIN" "Lcom/example/vestwright/vestwright/plan/Event;" (.ref c2)) (E_2 : Exa Z Z.heap c2 "com/example/vestwright/vestwright/plan/Event") (S_3 : Sta Z Z.heap "com/example/vestwright/vestwright/plan/Event" "ON_VESTING" "Lcom/example/vestwright/vestwright/plan/Event;" (.ref c3)) (E_3 : Exa Z Z.heap c3 "com/example/vestwright/vestwright/plan/Event") :
    MetFree l (⟨"com/example/vestwright/vestwright/plan/Event", "commencements", "()[Lcom/example/vestwright/vestwright/plan/Event;"⟩ : MethodName) (head1 (Jvm.Cond.code (⟨"com/example/vestwright/vestwright/plan/Event", "commencements", "()[Lcom/example/vestwright/vestwright/plan/Event;"⟩ : MethodName) prog_43_method_6_code 0 (some (.array (.object "com/example/vestwright/vestwright/plan/Event"))) :: ws) ({ frames := 0, cells := 1, slots := 3, locals := 0 } : Room)) (fun a U => a = #[] ∧ Z.Warmed39 U.vm ∧ U.heap = h0) (fun _ _ _ _ _ => True) (fun _ U o U' => ∃ v L, o = .returned v ∧ Q1 Z c0 c2 c3 h0 n0 v U'.heap L ∧ FrameEnd U o U' L ({ frames := 0, cells := 1, slots := 3, locals := 0 } : Room).cells ({ frames := 0, cells := 1, slots := 3, locals := 0 } : Room).slots) := by
  refine MetFree.of_bodySF (plainFor_of_name pn_1) hisR ?_
  intro p e s m args below meth c s₁ Bd hml0 hP hK
  obtain ⟨rfl, hZ, hh⟩ := hP
  have hx := Bd.exec
  have hby := Bd.bytes
  have hml : c.maxLocals = 0 := hml0
  have hown : s.vm.findClass "com/example/vestwright/vestwright/plan/Event" = some m.cls := findClass_of_methodNamed Bd.named
  have hnm := (name_of_methodNamed Bd.named Bd.method).1
  have hlk : meth.locks = false := BodyLoose.notSynchronized Bd
  have X0 : Stand p l e ({ frames := 0, cells := 1, slots := 3, locals := 0 } : Room) s m #[] below meth c s₁ [] 0 0 := Stand.of_body Bd
  have e0 : s₁.heap = h0 := by rw [← hh, Bd.state]; rfl
  have N0 := Fr.nil n0
  show Run p e s below (Q1 Z c0 c2 c3 h0 n0) ({ frames := 0, cells := 1, slots := 3, locals := 0 } : Room).cells ({ frames := 0, cells := 1, slots := 3, locals := 0 } : Room).slots s₁ (entryFrame m #[] 0)
  rw [ef_1]
  show Run _ _ _ _ _ _ _ s₁ (mkF m 0 #[] [])
  refine go (T' := s₁) (f' := (mkF m 1 #[] [(.int (3 : Int32))])) (by intro t k; exact XS.iconst X0.here hx rfl (hb hby d1_0) k) ?_
  show Run _ _ _ _ _ _ _ s₁ (mkF m 1 #[] [(.int (3 : Int32))])
  obtain ⟨T1, h1, kA1, X1, e1, E1, A1, EX1, OW1, st1⟩ := newRE X0 hx hZ hown (hw _ (List.mem_of_getElem? (i := 23) rfl)) (hw _ (List.mem_of_getElem? (i := 1) rfl)) e0 (g := (mkF m 1 #[] [(.int (3 : Int32))])) rfl (hb hby d1_1) rfl (by decide) (cap := 3) (by decide) (by decide) (by decide) (by decide) (ad := "[Lcom/example/vestwright/vestwright/plan/Event;") (by decide)
  obtain ⟨b1, g1⟩ : ∃ z, z = h0.size := ⟨_, rfl⟩
  rw [← g1] at A1 EX1 st1
  have ne_c0_b1 : c0 ≠ b1 := Nat.ne_of_lt (Nat.lt_of_lt_of_eq (Exa.ext O0.2 E_0).lt g1.symm)
  have ne_c2_b1 : c2 ≠ b1 := Nat.ne_of_lt (Nat.lt_of_lt_of_eq (Exa.ext O0.2 E_2).lt g1.symm)
  have ne_c3_b1 : c3 ≠ b1 := Nat.ne_of_lt (Nat.lt_of_lt_of_eq (Exa.ext O0.2 E_3).lt g1.symm)
  have ge_b1 : n0 ≤ b1 := Nat.le_trans Z0 (Nat.le_of_eq g1.symm)
  have sz_b1 : h0.size ≤ b1 := Nat.le_trans (Keep.refl h0 []).1 (Nat.le_of_eq g1.symm)
  have K1 : Keep h0 h1 [] := (Keep.refl _ _).ext E1
  have E1_c0 : Exa Z h1 c0 "com/example/vestwright/vestwright/plan/Event" := (Exa.ext O0.2 E_0).keep K1
  have E1_c2 : Exa Z h1 c2 "com/example/vestwright/vestwright/plan/Event" := (Exa.ext O0.2 E_2).keep K1
  have E1_c3 : Exa Z h1 c3 "com/example/vestwright/vestwright/plan/Event" := (Exa.ext O0.2 E_3).keep K1
  have O1 : Old Z n0 h1 := O0.keep K1 all0
  have Z1 : n0 ≤ h1.size := Nat.le_trans Z0 K1.1
  have KK1 : Keep h0 h1 [] := (Keep.refl _ _).trans K1 all0
  have V1 : Ary Z h1 b1 (.object "com/example/vestwright/vestwright/plan/Event") [.null, .null, .null] := Ary.new A1
  have OV1 : OvA Z h1 b1 "com/example/vestwright/vestwright/plan/Event" := ⟨_, A1.1, OW1⟩
  refine go st1 ?_
  show Run _ _ _ _ _ _ _ T1 (mkF m 4 #[] [(.ref b1)])
  refine go (T' := T1) (f' := (mkF m 5 #[] [(.ref b1), (.ref b1)])) (by intro t k; exact XS.dup X1.here hx rfl (hb hby d1_4) rfl rfl k) ?_
  show Run _ _ _ _ _ _ _ T1 (mkF m 5 #[] [(.ref b1), (.ref b1)])
  refine go (T' := T1) (f' := (mkF m 6 #[] [(.int (0 : Int32)), (.ref b1), (.ref b1)])) (by intro t k; exact XS.iconst X1.here hx rfl (hb hby d1_5) k) ?_
  show Run _ _ _ _ _ _ _ T1 (mkF m 6 #[] [(.int (0 : Int32)), (.ref b1), (.ref b1)])
  obtain ⟨T2, X2, e2, st2⟩ := getS2 X1 hx hZ hown (host := "") (Or.inl (hw _ (List.mem_of_getElem? (i := 24) rfl))) Via.refl e1 (S_0.ext O1.2) (g := (mkF m 6 #[] [(.int (0 : Int32)), (.ref b1), (.ref b1)])) rfl (hb hby d1_6)
  refine go st2 ?_
  show Run _ _ _ _ _ _ _ T2 (mkF m 9 #[] [(.ref c0), (.int (0 : Int32)), (.ref b1), (.ref b1)])
  have Sto3 : Sto Z h1 b1 (.ref c0) := (stA OV1 V1 (Ins.self E1_c0))
  obtain ⟨cl3, Ar3, hin3⟩ := Ary.st (j := (0 : Int32)) V1 (by decide) (by show (0 : Int32).toNatClampNeg < 3; decide)
  obtain ⟨T3, h3, X3, e3, W3, st3⟩ := stR X2 hx hZ e2 Ar3 (j := (0 : Int32)) hin3 rfl Sto3 (g := (mkF m 9 #[] [(.ref c0), (.int (0 : Int32)), (.ref b1), (.ref b1)])) rfl rfl (hb hby d1_9)
  have K3 : Keep h1 h3 [b1] := Keep.of_wr W3
  have V3 : Ary Z h3 b1 (.object "com/example/vestwright/vestwright/plan/Event") [(.ref c0), .null, .null] := Ary.set V1 W3 rfl
  have N3 := Fr.snoc X3 N0 ge_b1
  have E3_c0 : Exa Z h3 c0 "com/example/vestwright/vestwright/plan/Event" := E1_c0.keep K3
  have E3_c2 : Exa Z h3 c2 "com/example/vestwright/vestwright/plan/Event" := E1_c2.keep K3
  have E3_c3 : Exa Z h3 c3 "com/example/vestwright/vestwright/plan/Event" := E1_c3.keep K3
  have E3_b1 : Exa Z h3 b1 "[Lcom/example/vestwright/vestwright/plan/Event;" := EX1.keep K3
  have OV3_b1 : OvA Z h3 b1 "com/example/vestwright/vestwright/plan/Event" := OV1.keep K3
  have O3 : Old Z n0 h3 := O1.keep K3 (allS ge_b1 all0)
  have Z3 : n0 ≤ h3.size := Nat.le_trans Z1 K3.1
  have KK3 : Keep h0 h3 [] := KK1.trans K3 (allS (Or.inr sz_b1) all0)
  refine go st3 ?_
  show Run _ _ _ _ _ _ _ T3 (mkF m 10 #[] [(.ref b1)])
  refine go (T' := T3) (f' := (mkF m 11 #[] [(.ref b1), (.ref b1)])) (by intro t k; exact XS.dup X3.here hx rfl (hb hby d1_10) rfl rfl k) ?_
  show Run _ _ _ _ _ _ _ T3 (mkF m 11 #[] [(.ref b1), (.ref b1)])
  refine go (T' := T3) (f' := (mkF m 12 #[] [(.int (1 : Int32)), (.ref b1), (.ref b1)])) (by intro t k; exact XS.iconst X3.here hx rfl (hb hby d1_11) k) ?_
  show Run _ _ _ _ _ _ _ T3 (mkF m 12 #[] [(.int (1 : Int32)), (.ref b1), (.ref b1)])
  obtain ⟨T4, X4, e4, st4⟩ := getS2 X3 hx hZ hown (host := "") (Or.inl (hw _ (List.mem_of_getElem? (i := 25) rfl))) Via.refl e3 (S_2.ext O3.2) (g := (mkF m 12 #[] [(.int (1 : Int32)), (.ref b1), (.ref b1)])) rfl (hb hby d1_12)
  refine go st4 ?_
  show Run _ _ _ _ _ _ _ T4 (mkF m 15 #[] [(.ref c2), (.int (1 : Int32)), (.ref b1), (.ref b1)])
  have Sto5 : Sto Z h3 b1 (.ref c2) := (stA OV3_b1 V3 (Ins.self E3_c2))
  obtain ⟨cl5, Ar5, hin5⟩ := Ary.st (j := (1 : Int32)) V3 (by decide) (by show (1 : Int32).toNatClampNeg < 3; decide)
  obtain ⟨T5, h5, X5, e5, W5, st5⟩ := stR X4 hx hZ e4 Ar5 (j := (1 : Int32)) hin5 rfl Sto5 (g := (mkF m 15 #[] [(.ref c2), (.int (1 : Int32)), (.ref b1), (.ref b1)])) rfl rfl (hb hby d1_15)
  have K5 : Keep h3 h5 [b1] := Keep.of_wr W5
  have V5 : Ary Z h5 b1 (.object "com/example/vestwright/vestwright/plan/Event") [(.ref c0), (.ref c2), .null] := Ary.set V3 W5 rfl
  have N5 := Fr.snoc X5 N3 ge_b1
  have E5_c0 : Exa Z h5 c0 "com/example/vestwright/vestwright/plan/Event" := E3_c0.keep K5
  have E5_c2 : Exa Z h5 c2 "com/example/vestwright/vestwright/plan/Event" := E3_c2.keep K5
  have E5_c3 : Exa Z h5 c3 "com/example/vestwright/vestwright/plan/Event" := E3_c3.keep K5
  have E5_b1 : Exa Z h5 b1 "[Lcom/example/vestwright/vestwright/plan/Event;" := E3_b1.keep K5
  have OV5_b1 : OvA Z h5 b1 "com/example/vestwright/vestwright/plan/Event" := OV3_b1.keep K5
  have O5 : Old Z n0 h5 := O3.keep K5 (allS ge_b1 all0)
  have Z5 : n0 ≤ h5.size := Nat.le_trans Z3 K5.1
  have KK5 : Keep h0 h5 [] := KK3.trans K5 (allS (Or.inr sz_b1) all0)
  refine go st5 ?_
  show Run _ _ _ _ _ _ _ T5 (mkF m 16 #[] [(.ref b1)])
  refine go (T' := T5) (f' := (mkF m 17 #[] [(.ref b1), (.ref b1)])) (by intro t k; exact XS.dup X5.here hx rfl (hb hby d1_16) rfl rfl k) ?_
  show Run _ _ _ _ _ _ _ T5 (mkF m 17 #[] [(.ref b1), (.ref b1)])
  refine go (T' := T5) (f' := (mkF m 18 #[] [(.int (2 : Int32)), (.ref b1), (.ref b1)])) (by intro t k; exact XS.iconst X5.here hx rfl (hb hby d1_17) k) ?_
  show Run _ _ _ _ _ _ _ T5 (mkF m 18 #[] [(.int (2 : Int32)), (.ref b1), (.ref b1)])
  obtain ⟨T6, X6, e6, st6⟩ := getS2 X5 hx hZ hown (host := "") (Or.inl (hw _ (List.mem_of_getElem? (i := 26) rfl))) Via.refl e5 (S_3.ext O5.2) (g := (mkF m 18 #[] [(.int (2 : Int32)), (.ref b1), (.ref b1)])) rfl (hb hby d1_18)
  refine go st6 ?_
  show Run _ _ _ _ _ _ _ T6 (mkF m 21 #[] [(.ref c3), (.int (2 : Int32)), (.ref b1), (.ref b1)])
  have Sto7 : Sto Z h5 b1 (.ref c3) := (stA OV5_b1 V5 (Ins.self E5_c3))
  obtain ⟨cl7, Ar7, hin7⟩ := Ary.st (j := (2 : Int32)) V5 (by decide) (by show (2 : Int32).toNatClampNeg < 3; decide)
  obtain ⟨T7, h7, X7, e7, W7, st7⟩ := stR X6 hx hZ e6 Ar7 (j := (2 : Int32)) hin7 rfl Sto7 (g := (mkF m 21 #[] [(.ref c3), (.int (2 : Int32)), (.ref b1), (.ref b1)])) rfl rfl (hb hby d1_21)
  have K7 : Keep h5 h7 [b1] := Keep.of_wr W7
  have V7 : Ary Z h7 b1 (.object "com/example/vestwright/vestwright/plan/Event") [(.ref c0), (.ref c2), (.ref c3)] := Ary.set V5 W7 rfl
  have N7 := Fr.snoc X7 N5 ge_b1
  have E7_c0 : Exa Z h7 c0 "com/example/vestwright/vestwright/plan/Event" := E5_c0.keep K7
  have E7_c2 : Exa Z h7 c2 "com/example/vestwright/vestwright/plan/Event" := E5_c2.keep K7
  have E7_c3 : Exa Z h7 c3 "com/example/vestwright/vestwright/plan/Event" := E5_c3.keep K7
  have E7_b1 : Exa Z h7 b1 "[Lcom/example/vestwright/vestwright/plan/Event;" := E5_b1.keep K7
  have OV7_b1 : OvA Z h7 b1 "com/example/vestwright/vestwright/plan/Event" := OV5_b1.keep K7
  have O7 : Old Z n0 h7 := O5.keep K7 (allS ge_b1 all0)
  have Z7 : n0 ≤ h7.size := Nat.le_trans Z5 K7.1
  have KK7 : Keep h0 h7 [] := KK5.trans K7 (allS (Or.inr sz_b1) all0)
  refine go st7 ?_
  show Run _ _ _ _ _ _ _ T7 (mkF m 22 #[] [(.ref b1)])
  refine retW X7 hx (t := (.array (.object "com/example/vestwright/vestwright/plan/Event"))) Bd.returns rfl (Or.inr (Or.inr (Or.inr (Or.inr ⟨rfl, rfl, rfl⟩)))) (hb hby d1_22) hlk (by decide) (by decide) ?_
  show Q1 Z c0 c2 c3 h0 n0 _ T7.heap _
  rw [e7]
  have hv : h0.size ≤ b1 := by
    exact sz_b1
  exact ⟨_, rfl, hv, N7, KK7, V7, OV7_b1⟩
theorem d2_0 : decode method_2_code 0 = .ok (.aload_n 0, 1) := by decide +kernel
theorem d2_1 : decode method_2_code 1 = .ok (.arraylength, 1) := by decide +kernel
theorem d2_2 : decode method_2_code 2 = .ok (.iconst 3, 1) := by decide +kernel
theorem d2_3 : decode method_2_code 3 = .ok (.if_icmp .ne 34, 3) := by decide +kernel
theorem d2_6 : decode method_2_code 6 = .ok (.aload_n 0, 1) := by decide +kernel
theorem d2_7 : decode method_2_code 7 = .ok (.iconst 0, 1) := by decide +kernel
theorem d2_8 : decode method_2_code 8 = .ok (.aaload, 1) := by decide +kernel
theorem d2_9 : decode method_2_code 9 = .ok (.getstatic 7, 3) := by decide +kernel
theorem d2_12 : decode method_2_code 12 = .ok (.if_acmp .ne 25, 3) := by decide +kernel
theorem d2_15 : decode method_2_code 15 = .ok (.aload_n 0, 1) := by decide +kernel
theorem d2_16 : decode method_2_code 16 = .ok (.iconst 1, 1) := by decide +kernel
theorem d2_17 : decode method_2_code 17 = .ok (.aaload, 1) := by decide +kernel
theorem d2_18 : decode method_2_code 18 = .ok (.getstatic 13, 3) := by decide +kernel
theorem d2_21 : decode method_2_code 21 = .ok (.if_acmp .ne 16, 3) := by decide +kernel
theorem d2_24 : decode method_2_code 24 = .ok (.aload_n 0, 1) := by decide +kernel
theorem d2_25 : decode method_2_code 25 = .ok (.iconst 2, 1) := by decide +kernel
theorem d2_26 : decode method_2_code 26 = .ok (.aaload, 1) := by decide +kernel
theorem d2_27 : decode method_2_code 27 = .ok (.getstatic 16, 3) := by decide +kernel
theorem d2_30 : decode method_2_code 30 = .ok (.if_acmp .ne 7, 3) := by decide +kernel
theorem d2_33 : decode method_2_code 33 = .ok (.iconst 1, 1) := by decide +kernel
theorem d2_34 : decode method_2_code 34 = .ok (.goto 4, 3) := by decide +kernel
theorem d2_38 : decode method_2_code 38 = .ok (.ireturn, 1) := by decide +kernel
theorem pn_2 : plainName "com/example/vestwright/vestwright/plan/EventCommencementsPinLaw" = true := by first | (simp [plainName, overriddenIn]; done) | decide +kernel
theorem ef_2 (m : MethodId) (x0 : Addr) : entryFrame m #[(.ref x0)] 1 = mkF m 0 #[.val (.ref x0)] [] := by first | (simp [entryFrame, mkF, argsToLocals, Value.category]; done) | rfl
def Q2 (Z : State) (a0 : Addr) (c0 c2 c3 : Addr) (h0 : Heap) (n0 : Nat) (v : Option Value) (h : Heap) (L : List Loc) : Prop := v = some (.int (1 : Int32)) ∧ Fr n0 L ∧ h = h0
set_option maxRecDepth 65536 in
set_option maxHeartbeats 40000000 in
theorem rm2 (l : Launch) (Z : State) (aw : Array Value) (hw : ∀ d ∈ tables_1, d.before aw Z = true) (ws : List Jvm.Cond) (a0 : Addr) (c0 c2 c3 : Addr) (h0 : Heap) (n0 : Nat) (Z0 : n0 ≤ h0.size) (O0 : Old Z n0 h0) (S_0 : Sta Z Z.heap "com/example/vestwright/vestwright/plan/Event" "RETIREMENT" "Lcom/example/vestwright/vestwright/plan/Event;" (.ref c0)) (S_2 : Sta Z Z.heap "com/example/vestwright/vestwright/plan/Event" "DATE_CERTAIN" "Lcom/example/vestwright/vestwright/plan/Event;" (.ref c2)) (S_3 : Sta Z Z.heap "com/example/vestwright/vestwright/plan/Event" "ON_VESTING" "Lcom/example/vestwright/vestwright/plan/Event;" (.ref c3)) (A_a0 : Ary Z h0 a0 (.object "com/example/vestwright/vestwright/plan/Event") [(.ref c0), (.ref c2), (.ref c3)]) :
    MetFree l (⟨"com/example/vestwright/vestwright/plan/EventCommencementsPinLaw", "exact", "([Lcom/example/vestwright/vestwright/plan/Event;)Z"⟩ : MethodName) (head1 (Jvm.Cond.code (⟨"com/example/vestwright/vestwright/plan/EventCommencementsPinLaw", "exact", "([Lcom/example/vestwright/vestwright/plan/Event;)Z"⟩ : MethodName) method_2_code 1 (some .boolean) :: ws) ({ frames := 0, cells := 0, slots := 0, locals := 0 } : Room)) (fun a U => a = #[(.ref a0)] ∧ Z.Warmed39 U.vm ∧ U.heap = h0) (fun _ _ _ _ _ => True) (fun _ U o U' => ∃ v L, o = .returned v ∧ Q2 Z a0 c0 c2 c3 h0 n0 v U'.heap L ∧ FrameEnd U o U' L ({ frames := 0, cells := 0, slots := 0, locals := 0 } : Room).cells ({ frames := 0, cells := 0, slots := 0, locals := 0 } : Room).slots) := by
  refine MetFree.of_bodySF (plainFor_of_name pn_2) hisR ?_
  intro p e s m args below meth c s₁ Bd hml0 hP hK
  obtain ⟨rfl, hZ, hh⟩ := hP
  have hx := Bd.exec
  have hby := Bd.bytes
  have hml : c.maxLocals = 1 := hml0
  have hown : s.vm.findClass "com/example/vestwright/vestwright/plan/EventCommencementsPinLaw" = some m.cls := findClass_of_methodNamed Bd.named
  have hnm := (name_of_methodNamed Bd.named Bd.method).1
  have hlk : meth.locks = false := BodyLoose.notSynchronized Bd
  have X0 : Stand p l e ({ frames := 0, cells := 0, slots := 0, locals := 0 } : Room) s m #[(.ref a0)] below meth c s₁ [] 0 0 := Stand.of_body Bd
  have e0 : s₁.heap = h0 := by rw [← hh, Bd.state]; rfl
  have N0 := Fr.nil n0
  show Run p e s below (Q2 Z a0 c0 c2 c3 h0 n0) ({ frames := 0, cells := 0, slots := 0, locals := 0 } : Room).cells ({ frames := 0, cells := 0, slots := 0, locals := 0 } : Room).slots s₁ (entryFrame m #[(.ref a0)] 1)
  rw [ef_2]
  show Run _ _ _ _ _ _ _ s₁ (mkF m 0 #[.val (.ref a0)] [])
  refine go (T' := s₁) (f' := (mkF m 1 #[.val (.ref a0)] [(.ref a0)])) (by intro t k; exact XS.aloadN X0.here hx rfl (hb hby d2_0) rfl rfl k) ?_
  show Run _ _ _ _ _ _ _ s₁ (mkF m 1 #[.val (.ref a0)] [(.ref a0)])
  refine go (T' := s₁) (f' := (mkF m 2 #[.val (.ref a0)] [(.int (3 : Int32))])) (by intro t k; exact alen X0 hx hZ e0 A_a0 (z := (3 : Int32)) rfl (g := (mkF m 1 #[.val (.ref a0)] [(.ref a0)])) rfl rfl (hb hby d2_1) _ k) ?_
  show Run _ _ _ _ _ _ _ s₁ (mkF m 2 #[.val (.ref a0)] [(.int (3 : Int32))])
  refine go (T' := s₁) (f' := (mkF m 3 #[.val (.ref a0)] [(.int (3 : Int32)), (.int (3 : Int32))])) (by intro t k; exact XS.iconst X0.here hx rfl (hb hby d2_2) k) ?_
  show Run _ _ _ _ _ _ _ s₁ (mkF m 3 #[.val (.ref a0)] [(.int (3 : Int32)), (.int (3 : Int32))])
  refine go (T' := s₁) (f' := (mkF m 6 #[.val (.ref a0)] [])) (by intro t k; exact XS.icmpNo X0.here hx rfl (hb hby d2_3) rfl (teq (rfl : (3 : Int32) = (3 : Int32))).2 k) ?_
  show Run _ _ _ _ _ _ _ s₁ (mkF m 6 #[.val (.ref a0)] [])
  refine go (T' := s₁) (f' := (mkF m 7 #[.val (.ref a0)] [(.ref a0)])) (by intro t k; exact XS.aloadN X0.here hx rfl (hb hby d2_6) rfl rfl k) ?_
  show Run _ _ _ _ _ _ _ s₁ (mkF m 7 #[.val (.ref a0)] [(.ref a0)])
  refine go (T' := s₁) (f' := (mkF m 8 #[.val (.ref a0)] [(.int (0 : Int32)), (.ref a0)])) (by intro t k; exact XS.iconst X0.here hx rfl (hb hby d2_7) k) ?_
  show Run _ _ _ _ _ _ _ s₁ (mkF m 8 #[.val (.ref a0)] [(.int (0 : Int32)), (.ref a0)])
  refine go (T' := s₁) (f' := (mkF m 9 #[.val (.ref a0)] [(.ref c0)])) (by intro t k; exact ldR X0 hx hZ e0 A_a0 rfl (j := (0 : Int32)) (v := (.ref c0)) (by decide) rfl (g := (mkF m 8 #[.val (.ref a0)] [(.int (0 : Int32)), (.ref a0)])) rfl rfl (hb hby d2_8) _ k) ?_
  show Run _ _ _ _ _ _ _ s₁ (mkF m 9 #[.val (.ref a0)] [(.ref c0)])
  obtain ⟨T1, X1, e1, st1⟩ := getS2 X0 hx hZ hown (host := "") (Or.inl (hw _ (List.mem_of_getElem? (i := 2) rfl))) Via.refl e0 (S_0.ext O0.2) (g := (mkF m 9 #[.val (.ref a0)] [(.ref c0)])) rfl (hb hby d2_9)
  refine go st1 ?_
  show Run _ _ _ _ _ _ _ T1 (mkF m 12 #[.val (.ref a0)] [(.ref c0), (.ref c0)])
  refine go (T' := T1) (f' := (mkF m 15 #[.val (.ref a0)] [])) (by intro t k; exact Jvm.RoadKit.acmp (g := (mkF m 12 #[.val (.ref a0)] [(.ref c0), (.ref c0)])) X1 hx rfl rfl rfl (pc0 := 12) (pc' := 15) (same := true) rfl (hb hby d2_12) rfl (decide_eq_true rfl) (by decide) (by decide) k) ?_
  show Run _ _ _ _ _ _ _ T1 (mkF m 15 #[.val (.ref a0)] [])
  refine go (T' := T1) (f' := (mkF m 16 #[.val (.ref a0)] [(.ref a0)])) (by intro t k; exact XS.aloadN X1.here hx rfl (hb hby d2_15) rfl rfl k) ?_
  show Run _ _ _ _ _ _ _ T1 (mkF m 16 #[.val (.ref a0)] [(.ref a0)])
  refine go (T' := T1) (f' := (mkF m 17 #[.val (.ref a0)] [(.int (1 : Int32)), (.ref a0)])) (by intro t k; exact XS.iconst X1.here hx rfl (hb hby d2_16) k) ?_
  show Run _ _ _ _ _ _ _ T1 (mkF m 17 #[.val (.ref a0)] [(.int (1 : Int32)), (.ref a0)])
  refine go (T' := T1) (f' := (mkF m 18 #[.val (.ref a0)] [(.ref c2)])) (by intro t k; exact ldR X1 hx hZ e1 A_a0 rfl (j := (1 : Int32)) (v := (.ref c2)) (by decide) rfl (g := (mkF m 17 #[.val (.ref a0)] [(.int (1 : Int32)), (.ref a0)])) rfl rfl (hb hby d2_17) _ k) ?_
  show Run _ _ _ _ _ _ _ T1 (mkF m 18 #[.val (.ref a0)] [(.ref c2)])
  obtain ⟨T2, X2, e2, st2⟩ := getS2 X1 hx hZ hown (host := "") (Or.inl (hw _ (List.mem_of_getElem? (i := 8) rfl))) Via.refl e1 (S_2.ext O0.2) (g := (mkF m 18 #[.val (.ref a0)] [(.ref c2)])) rfl (hb hby d2_18)
  refine go st2 ?_
  show Run _ _ _ _ _ _ _ T2 (mkF m 21 #[.val (.ref a0)] [(.ref c2), (.ref c2)])
  refine go (T' := T2) (f' := (mkF m 24 #[.val (.ref a0)] [])) (by intro t k; exact Jvm.RoadKit.acmp (g := (mkF m 21 #[.val (.ref a0)] [(.ref c2), (.ref c2)])) X2 hx rfl rfl rfl (pc0 := 21) (pc' := 24) (same := true) rfl (hb hby d2_21) rfl (decide_eq_true rfl) (by decide) (by decide) k) ?_
  show Run _ _ _ _ _ _ _ T2 (mkF m 24 #[.val (.ref a0)] [])
  refine go (T' := T2) (f' := (mkF m 25 #[.val (.ref a0)] [(.ref a0)])) (by intro t k; exact XS.aloadN X2.here hx rfl (hb hby d2_24) rfl rfl k) ?_
  show Run _ _ _ _ _ _ _ T2 (mkF m 25 #[.val (.ref a0)] [(.ref a0)])
  refine go (T' := T2) (f' := (mkF m 26 #[.val (.ref a0)] [(.int (2 : Int32)), (.ref a0)])) (by intro t k; exact XS.iconst X2.here hx rfl (hb hby d2_25) k) ?_
  show Run _ _ _ _ _ _ _ T2 (mkF m 26 #[.val (.ref a0)] [(.int (2 : Int32)), (.ref a0)])
  refine go (T' := T2) (f' := (mkF m 27 #[.val (.ref a0)] [(.ref c3)])) (by intro t k; exact ldR X2 hx hZ e2 A_a0 rfl (j := (2 : Int32)) (v := (.ref c3)) (by decide) rfl (g := (mkF m 26 #[.val (.ref a0)] [(.int (2 : Int32)), (.ref a0)])) rfl rfl (hb hby d2_26) _ k) ?_
  show Run _ _ _ _ _ _ _ T2 (mkF m 27 #[.val (.ref a0)] [(.ref c3)])
  obtain ⟨T3, X3, e3, st3⟩ := getS2 X2 hx hZ hown (host := "") (Or.inl (hw _ (List.mem_of_getElem? (i := 10) rfl))) Via.refl e2 (S_3.ext O0.2) (g := (mkF m 27 #[.val (.ref a0)] [(.ref c3)])) rfl (hb hby d2_27)
  refine go st3 ?_
  show Run _ _ _ _ _ _ _ T3 (mkF m 30 #[.val (.ref a0)] [(.ref c3), (.ref c3)])
  refine go (T' := T3) (f' := (mkF m 33 #[.val (.ref a0)] [])) (by intro t k; exact Jvm.RoadKit.acmp (g := (mkF m 30 #[.val (.ref a0)] [(.ref c3), (.ref c3)])) X3 hx rfl rfl rfl (pc0 := 30) (pc' := 33) (same := true) rfl (hb hby d2_30) rfl (decide_eq_true rfl) (by decide) (by decide) k) ?_
  show Run _ _ _ _ _ _ _ T3 (mkF m 33 #[.val (.ref a0)] [])
  refine go (T' := T3) (f' := (mkF m 34 #[.val (.ref a0)] [(.int (1 : Int32))])) (by intro t k; exact XS.iconst X3.here hx rfl (hb hby d2_33) k) ?_
  show Run _ _ _ _ _ _ _ T3 (mkF m 34 #[.val (.ref a0)] [(.int (1 : Int32))])
  refine go (T' := T3) (f' := (mkF m 38 #[.val (.ref a0)] [(.int (1 : Int32))])) (by intro t k; exact XS.goto X3.here hx rfl (pc0 := 34) (pc' := 38) rfl (hb hby d2_34) (by decide) (by decide) k) ?_
  show Run _ _ _ _ _ _ _ T3 (mkF m 38 #[.val (.ref a0)] [(.int (1 : Int32))])
  refine retZ X3 hx (t := .boolean) Bd.returns (by simp) (hb hby d2_38) hlk (by decide) (by decide) ?_
  show Q2 Z a0 c0 c2 c3 h0 n0 _ T3.heap _
  rw [e3]
  have hv' : (nar .boolean (1 : Int32)) = (1 : Int32) := by
    rfl
  have hv : (some (.int (nar .boolean (1 : Int32))) : Option Value) = some (.int (1 : Int32)) := congrArg (fun z => (some (.int z) : Option Value)) hv'
  exact ⟨hv, N0, rfl⟩
theorem d3_0 : decode prog_43_method_5_code 0 = .ok (.aload_n 0, 1) := by decide +kernel
theorem d3_1 : decode prog_43_method_5_code 1 = .ok (.getfield 51, 3) := by decide +kernel
theorem d3_4 : decode prog_43_method_5_code 4 = .ok (.ireturn, 1) := by decide +kernel
theorem ef_3 (m : MethodId) (x0 : Addr) : entryFrame m #[(.ref x0)] 1 = mkF m 0 #[.val (.ref x0)] [] := by first | (simp [entryFrame, mkF, argsToLocals, Value.category]; done) | rfl
def Q3 (Z : State) (a0 : Addr) (h0 : Heap) (n0 : Nat) (v : Option Value) (h : Heap) (L : List Loc) : Prop := v = some (.int (1 : Int32)) ∧ Fr n0 L ∧ h = h0
set_option maxRecDepth 65536 in
set_option maxHeartbeats 40000000 in
theorem rm3 (l : Launch) (Z : State) (aw : Array Value) (hw : ∀ d ∈ tables_1, d.before aw Z = true) (ws : List Jvm.Cond) (a0 : Addr) (h0 : Heap) (n0 : Nat) (Z0 : n0 ≤ h0.size) (F_a0 : Fld Z h0 a0 "com/example/vestwright/vestwright/plan/Event" "beginsElectedPayouts" "Z" (.int (1 : Int32))) :
    MetFree l (⟨"com/example/vestwright/vestwright/plan/Event", "beginsElectedPayouts", "()Z"⟩ : MethodName) (head1 (Jvm.Cond.code (⟨"com/example/vestwright/vestwright/plan/Event", "beginsElectedPayouts", "()Z"⟩ : MethodName) prog_43_method_5_code 1 (some .boolean) :: ws) ({ frames := 0, cells := 0, slots := 0, locals := 0 } : Room)) (fun a U => a = #[(.ref a0)] ∧ Z.Warmed39 U.vm ∧ U.heap = h0) (fun _ _ _ _ _ => True) (fun _ U o U' => ∃ v L, o = .returned v ∧ Q3 Z a0 h0 n0 v U'.heap L ∧ FrameEnd U o U' L ({ frames := 0, cells := 0, slots := 0, locals := 0 } : Room).cells ({ frames := 0, cells := 0, slots := 0, locals := 0 } : Room).slots) := by
  refine MetFree.of_bodySF (plainFor_of_name pn_1) hisR ?_
  intro p e s m args below meth c s₁ Bd hml0 hP hK
  obtain ⟨rfl, hZ, hh⟩ := hP
  have hx := Bd.exec
  have hby := Bd.bytes
  have hml : c.maxLocals = 1 := hml0
  have hown : s.vm.findClass "com/example/vestwright/vestwright/plan/Event" = some m.cls := findClass_of_methodNamed Bd.named
  have hnm := (name_of_methodNamed Bd.named Bd.method).1
  have hlk : meth.locks = false := BodyLoose.notSynchronized Bd
  have X0 : Stand p l e ({ frames := 0, cells := 0, slots := 0, locals := 0 } : Room) s m #[(.ref a0)] below meth c s₁ [] 0 0 := Stand.of_body Bd
  have e0 : s₁.heap = h0 := by rw [← hh, Bd.state]; rfl
  have N0 := Fr.nil n0
  show Run p e s below (Q3 Z a0 h0 n0) ({ frames := 0, cells := 0, slots := 0, locals := 0 } : Room).cells ({ frames := 0, cells := 0, slots := 0, locals := 0 } : Room).slots s₁ (entryFrame m #[(.ref a0)] 1)
  rw [ef_3]
  show Run _ _ _ _ _ _ _ s₁ (mkF m 0 #[.val (.ref a0)] [])
  refine go (T' := s₁) (f' := (mkF m 1 #[.val (.ref a0)] [(.ref a0)])) (by intro t k; exact XS.aloadN X0.here hx rfl (hb hby d3_0) rfl rfl k) ?_
  show Run _ _ _ _ _ _ _ s₁ (mkF m 1 #[.val (.ref a0)] [(.ref a0)])
  obtain ⟨T1, X1, e1, st1⟩ := getF X0 hx hZ hown (host := "") (Or.inl (hw _ (List.mem_of_getElem? (i := 36) rfl))) Via.refl e0 F_a0 (g := (mkF m 1 #[.val (.ref a0)] [(.ref a0)])) rfl rfl (hb hby d3_1)
  refine go st1 ?_
  show Run _ _ _ _ _ _ _ T1 (mkF m 4 #[.val (.ref a0)] [(.int (1 : Int32))])
  refine retZ X1 hx (t := .boolean) Bd.returns (by simp) (hb hby d3_4) hlk (by decide) (by decide) ?_
  show Q3 Z a0 h0 n0 _ T1.heap _
  rw [e1]
  have hv' : (nar .boolean (1 : Int32)) = (1 : Int32) := by
    rfl
  have hv : (some (.int (nar .boolean (1 : Int32))) : Option Value) = some (.int (1 : Int32)) := congrArg (fun z => (some (.int z) : Option Value)) hv'
  exact ⟨hv, N0, rfl⟩
theorem own_mod (x : Int32) (k : Int32) (n : Int) (hk : k.toInt = n) (h1 : 0 < n) : 0 ≤ ((x &&& (2147483647 : Int32)) % k).toInt ∧ ((x &&& (2147483647 : Int32)) % k).toInt < n := by
  have hx : 0 ≤ (x &&& (2147483647 : Int32)).toInt := (c_and x 2147483647 (by decide)).1
  rw [Int32.toInt_mod, hk, Int.tmod_eq_emod_of_nonneg hx]
  exact ⟨Int.emod_nonneg _ (by omega), Int.emod_lt_of_pos _ h1⟩
theorem own_nn {x : Int32} (h : 0 ≤ x.toInt) : ¬ x < 0 := by
  rw [Int32.lt_iff_toInt_lt]
  have : (0 : Int32).toInt = 0 := rfl
  omega
theorem own_cl (x : Int32) : x.toNatClampNeg = x.toInt.toNat := rfl
theorem own_pick {Z : State} {h : Heap} {c0 c1 c2 c3 c4 c5 c6 c7 : Addr} (x : Int32) (E0 : Exa Z h c0 "com/example/vestwright/vestwright/plan/Event") (E1 : Exa Z h c1 "com/example/vestwright/vestwright/plan/Event") (E2 : Exa Z h c2 "com/example/vestwright/vestwright/plan/Event") (E3 : Exa Z h c3 "com/example/vestwright/vestwright/plan/Event") (E4 : Exa Z h c4 "com/example/vestwright/vestwright/plan/Event") (E5 : Exa Z h c5 "com/example/vestwright/vestwright/plan/Event") (E6 : Exa Z h c6 "com/example/vestwright/vestwright/plan/Event") (E7 : Exa Z h c7 "com/example/vestwright/vestwright/plan/Event") :
    ∃ y, ([(.ref c0), (.ref c1), (.ref c2), (.ref c3), (.ref c4), (.ref c5), (.ref c6), (.ref c7)] : List Value)[((x &&& (2147483647 : Int32)) % (8 : Int32)).toNatClampNeg]? = some (.ref y) ∧ Exa Z h y "com/example/vestwright/vestwright/plan/Event" := by
  obtain ⟨a, b⟩ := own_mod x 8 8 rfl (by decide)
  rw [own_cl]
  have hn : ((x &&& (2147483647 : Int32)) % (8 : Int32)).toInt.toNat < 8 := by omega
  generalize ((x &&& (2147483647 : Int32)) % (8 : Int32)).toInt.toNat = n at hn ⊢
  match n, hn with
  | 0, _ => exact ⟨_, rfl, E0⟩
  | 1, _ => exact ⟨_, rfl, E1⟩
  | 2, _ => exact ⟨_, rfl, E2⟩
  | 3, _ => exact ⟨_, rfl, E3⟩
  | 4, _ => exact ⟨_, rfl, E4⟩
  | 5, _ => exact ⟨_, rfl, E5⟩
  | 6, _ => exact ⟨_, rfl, E6⟩
  | 7, _ => exact ⟨_, rfl, E7⟩
  | n + 8, h => omega
theorem pd_28295bLcom2fexample2fvestwright2fvestwright2fplan2fEvent3b : parseMethodDescriptor "()[Lcom/example/vestwright/vestwright/plan/Event;" = some ⟨[], some (.array (.object "com/example/vestwright/vestwright/plan/Event"))⟩ := by decide +kernel
theorem pd_285bLcom2fexample2fvestwright2fvestwright2fplan2fEvent3b29Z : parseMethodDescriptor "([Lcom/example/vestwright/vestwright/plan/Event;)Z" = some ⟨[(.array (.object "com/example/vestwright/vestwright/plan/Event"))], some .boolean⟩ := by decide +kernel
theorem pd_2829Z : parseMethodDescriptor "()Z" = some ⟨[], some .boolean⟩ := by decide +kernel
theorem ef_0 (m : MethodId) (x0 : Int32) (x1 : Int32) : entryFrame m #[(.int x0), (.int x1)] maxLocals = mkF m 0 #[.val (.int x0), .val (.int x1), .unset, .unset, .unset, .unset, .unset] [] := by first | (simp [entryFrame, mkF, argsToLocals, Value.category, maxLocals]; done) | rfl
def Q0 (Z : State) (p0 : Int32) (p1 : Int32) (c0 c1 c2 c3 c4 c5 c6 c7 : Addr) (h0 : Heap) (n0 : Nat) (v : Option Value) (h : Heap) (L : List Loc) : Prop := v = some (.int (1 : Int32)) ∧ Fr n0 L
set_option maxRecDepth 65536 in
set_option maxHeartbeats 40000000 in
theorem rm0 (l : Launch) (Z : State) (aw : Array Value) (hw : ∀ d ∈ tables_1, d.before aw Z = true) (ws : List Jvm.Cond) (p0 : Int32) (p1 : Int32) (c0 c1 c2 c3 c4 c5 c6 c7 : Addr) (h0 : Heap) (n0 : Nat) (Z0 : n0 ≤ h0.size) (O0 : Old Z n0 h0) (S_0 : Sta Z Z.heap "com/example/vestwright/vestwright/plan/Event" "RETIREMENT" "Lcom/example/vestwright/vestwright/plan/Event;" (.ref c0)) (E_0 : Exa Z Z.heap c0 "com/example/vestwright/vestwright/plan/Event") (S_1 : Sta Z Z.heap "com/example/vestwright/vestwright/plan/Event" "TERMINATION" "Lcom/example/vestwright/vestwright/plan/Event;" (.ref c1)) (E_1 : Exa Z Z.heap c1 "com/example/vestwright/vestwright/plan/Event") (S_2 : Sta Z Z.heap "com/example/vestwright/vestwright/plan/Event" "DATE_CERTAIN" "Lcom/example/vestwright/vestwright/plan/Event;" (.ref c2)) (E_2 : Exa Z Z.heap c2 "com/example/vestwright/vestwright/plan/Event") (S_3 : Sta Z Z.heap "com/example/vestwright/vestwright/plan/Event" "ON_VESTING" "Lcom/example/vestwright/vestwright/plan/Event;" (.ref c3)) (E_3 : Exa Z Z.heap c3 "com/example/vestwright/vestwright/plan/Event") (S_4 : Sta Z Z.heap "com/example/vestwright/vestwright/plan/Event" "FUNDED_PLAN_PAYMENT" "Lcom/example/vestwright/vestwright/plan/Event;" (.ref c4)) (E_4 : Exa Z Z.heap c4 "com/example/vestwright/vestwright/plan/Event") (S_5 : Sta Z Z.heap "com/example/vestwright/vestwright/plan/Event" "WITHDRAWAL" "Lcom/example/vestwright/vestwright/plan/Event;" (.ref c5)) (E_5 : Exa Z Z.heap c5 "com/example/vestwright/vestwright/plan/Event") (S_6 : Sta Z Z.heap "com/example/vestwright/vestwright/plan/Event" "DEATH" "Lcom/example/vestwright/vestwright/plan/Event;" (.ref c6)) (E_6 : Exa Z Z.heap c6 "com/example/vestwright/vestwright/plan/Event") (S_7 : Sta Z Z.heap "com/example/vestwright/vestwright/plan/Event" "CHANGE_IN_CONTROL" "Lcom/example/vestwright/vestwright/plan/Event;" (.ref c7)) (E_7 : Exa Z Z.heap c7 "com/example/vestwright/vestwright/plan/Event") (F_0 : Fld Z Z.heap c0 "com/example/vestwright/vestwright/plan/Event" "beginsElectedPayouts" "Z" (.int (1 : Int32))) (F_2 : Fld Z Z.heap c2 "com/example/vestwright/vestwright/plan/Event" "beginsElectedPayouts" "Z" (.int (1 : Int32))) (F_3 : Fld Z Z.heap c3 "com/example/vestwright/vestwright/plan/Event" "beginsElectedPayouts" "Z" (.int (1 : Int32))) :
    MetFree l x (head1 (Jvm.Cond.code x code maxLocals ret :: ws) room_1) (fun a U => a = #[(.int p0), (.int p1)] ∧ Z.Warmed39 U.vm ∧ U.heap = h0) (fun _ _ _ _ _ => True) (fun _ U o U' => ∃ v L, o = .returned v ∧ Q0 Z p0 p1 c0 c1 c2 c3 c4 c5 c6 c7 h0 n0 v U'.heap L ∧ FrameEnd U o U' L room_1.cells room_1.slots) := by
  refine MetFree.of_bodySF (plainFor_of_name pn_2) hisR ?_
  intro p e s m args below meth c s₁ Bd hml0 hP hK
  obtain ⟨rfl, hZ, hh⟩ := hP
  have hx := Bd.exec
  have hby := Bd.bytes
  have hml : c.maxLocals = 7 := hml0
  have hown : s.vm.findClass "com/example/vestwright/vestwright/plan/EventCommencementsPinLaw" = some m.cls := findClass_of_methodNamed Bd.named
  have hnm := (name_of_methodNamed Bd.named Bd.method).1
  have hlk : meth.locks = false := BodyLoose.notSynchronized Bd
  have X0 : Stand p l e room_1 s m #[(.int p0), (.int p1)] below meth c s₁ [] 0 0 := Stand.of_body Bd
  have e0 : s₁.heap = h0 := by rw [← hh, Bd.state]; rfl
  have N0 := Fr.nil n0
  show Run p e s below (Q0 Z p0 p1 c0 c1 c2 c3 c4 c5 c6 c7 h0 n0) room_1.cells room_1.slots s₁ (entryFrame m #[(.int p0), (.int p1)] maxLocals)
  rw [ef_0]
  show Run _ _ _ _ _ _ _ s₁ (mkF m 0 #[.val (.int p0), .val (.int p1), .unset, .unset, .unset, .unset, .unset] [])
  refine go (T' := s₁) (f' := (mkF m 2 #[.val (.int p0), .val (.int p1), .unset, .unset, .unset, .unset, .unset] [(.int (8 : Int32))])) (by intro t k; exact XS.bipush X0.here hx rfl (hb hby at_0) k) ?_
  show Run _ _ _ _ _ _ _ s₁ (mkF m 2 #[.val (.int p0), .val (.int p1), .unset, .unset, .unset, .unset, .unset] [(.int (8 : Int32))])
  obtain ⟨T1, h1, kA1, X1, e1, E1, A1, EX1, OW1, st1⟩ := newRE X0 hx hZ hown (hw _ (List.mem_of_getElem? (i := 0) rfl)) (hw _ (List.mem_of_getElem? (i := 1) rfl)) e0 (g := (mkF m 2 #[.val (.int p0), .val (.int p1), .unset, .unset, .unset, .unset, .unset] [(.int (8 : Int32))])) rfl (hb hby at_2) rfl (by decide) (cap := 8) (by decide) (by decide) (by decide) (by decide) (ad := "[Lcom/example/vestwright/vestwright/plan/Event;") (by decide)
  obtain ⟨b1, g1⟩ : ∃ z, z = h0.size := ⟨_, rfl⟩
  rw [← g1] at A1 EX1 st1
  have ne_c0_b1 : c0 ≠ b1 := Nat.ne_of_lt (Nat.lt_of_lt_of_eq (Exa.ext O0.2 E_0).lt g1.symm)
  have ne_c1_b1 : c1 ≠ b1 := Nat.ne_of_lt (Nat.lt_of_lt_of_eq (Exa.ext O0.2 E_1).lt g1.symm)
  have ne_c2_b1 : c2 ≠ b1 := Nat.ne_of_lt (Nat.lt_of_lt_of_eq (Exa.ext O0.2 E_2).lt g1.symm)
  have ne_c3_b1 : c3 ≠ b1 := Nat.ne_of_lt (Nat.lt_of_lt_of_eq (Exa.ext O0.2 E_3).lt g1.symm)
  have ne_c4_b1 : c4 ≠ b1 := Nat.ne_of_lt (Nat.lt_of_lt_of_eq (Exa.ext O0.2 E_4).lt g1.symm)
  have ne_c5_b1 : c5 ≠ b1 := Nat.ne_of_lt (Nat.lt_of_lt_of_eq (Exa.ext O0.2 E_5).lt g1.symm)
  have ne_c6_b1 : c6 ≠ b1 := Nat.ne_of_lt (Nat.lt_of_lt_of_eq (Exa.ext O0.2 E_6).lt g1.symm)
  have ne_c7_b1 : c7 ≠ b1 := Nat.ne_of_lt (Nat.lt_of_lt_of_eq (Exa.ext O0.2 E_7).lt g1.symm)
  have ge_b1 : n0 ≤ b1 := Nat.le_trans Z0 (Nat.le_of_eq g1.symm)
  have K1 : Keep h0 h1 [] := (Keep.refl _ _).ext E1
  have E1_c0 : Exa Z h1 c0 "com/example/vestwright/vestwright/plan/Event" := (Exa.ext O0.2 E_0).keep K1
  have E1_c1 : Exa Z h1 c1 "com/example/vestwright/vestwright/plan/Event" := (Exa.ext O0.2 E_1).keep K1
  have E1_c2 : Exa Z h1 c2 "com/example/vestwright/vestwright/plan/Event" := (Exa.ext O0.2 E_2).keep K1
  have E1_c3 : Exa Z h1 c3 "com/example/vestwright/vestwright/plan/Event" := (Exa.ext O0.2 E_3).keep K1
  have E1_c4 : Exa Z h1 c4 "com/example/vestwright/vestwright/plan/Event" := (Exa.ext O0.2 E_4).keep K1
  have E1_c5 : Exa Z h1 c5 "com/example/vestwright/vestwright/plan/Event" := (Exa.ext O0.2 E_5).keep K1
  have E1_c6 : Exa Z h1 c6 "com/example/vestwright/vestwright/plan/Event" := (Exa.ext O0.2 E_6).keep K1
  have E1_c7 : Exa Z h1 c7 "com/example/vestwright/vestwright/plan/Event" := (Exa.ext O0.2 E_7).keep K1
  have F1_c0_beginsElectedPayouts : Fld Z h1 c0 "com/example/vestwright/vestwright/plan/Event" "beginsElectedPayouts" "Z" (.int (1 : Int32)) := (Fld.ext O0.2 F_0).keep K1 nin0
  have F1_c2_beginsElectedPayouts : Fld Z h1 c2 "com/example/vestwright/vestwright/plan/Event" "beginsElectedPayouts" "Z" (.int (1 : Int32)) := (Fld.ext O0.2 F_2).keep K1 nin0
  have F1_c3_beginsElectedPayouts : Fld Z h1 c3 "com/example/vestwright/vestwright/plan/Event" "beginsElectedPayouts" "Z" (.int (1 : Int32)) := (Fld.ext O0.2 F_3).keep K1 nin0
  have O1 : Old Z n0 h1 := O0.keep K1 all0
  have Z1 : n0 ≤ h1.size := Nat.le_trans Z0 K1.1
  have V1 : Ary Z h1 b1 (.object "com/example/vestwright/vestwright/plan/Event") [.null, .null, .null, .null, .null, .null, .null, .null] := Ary.new A1
  have OV1 : OvA Z h1 b1 "com/example/vestwright/vestwright/plan/Event" := ⟨_, A1.1, OW1⟩
  refine go st1 ?_
  show Run _ _ _ _ _ _ _ T1 (mkF m 5 #[.val (.int p0), .val (.int p1), .unset, .unset, .unset, .unset, .unset] [(.ref b1)])
  refine go (T' := T1) (f' := (mkF m 6 #[.val (.int p0), .val (.int p1), .unset, .unset, .unset, .unset, .unset] [(.ref b1), (.ref b1)])) (by intro t k; exact XS.dup X1.here hx rfl (hb hby at_5) rfl rfl k) ?_
  show Run _ _ _ _ _ _ _ T1 (mkF m 6 #[.val (.int p0), .val (.int p1), .unset, .unset, .unset, .unset, .unset] [(.ref b1), (.ref b1)])
  refine go (T' := T1) (f' := (mkF m 7 #[.val (.int p0), .val (.int p1), .unset, .unset, .unset, .unset, .unset] [(.int (0 : Int32)), (.ref b1), (.ref b1)])) (by intro t k; exact XS.iconst X1.here hx rfl (hb hby at_6) k) ?_
  show Run _ _ _ _ _ _ _ T1 (mkF m 7 #[.val (.int p0), .val (.int p1), .unset, .unset, .unset, .unset, .unset] [(.int (0 : Int32)), (.ref b1), (.ref b1)])
  obtain ⟨T2, X2, e2, st2⟩ := getS2 X1 hx hZ hown (host := "") (Or.inl (hw _ (List.mem_of_getElem? (i := 2) rfl))) Via.refl e1 (S_0.ext O1.2) (g := (mkF m 7 #[.val (.int p0), .val (.int p1), .unset, .unset, .unset, .unset, .unset] [(.int (0 : Int32)), (.ref b1), (.ref b1)])) rfl (hb hby at_7)
  refine go st2 ?_
  show Run _ _ _ _ _ _ _ T2 (mkF m 10 #[.val (.int p0), .val (.int p1), .unset, .unset, .unset, .unset, .unset] [(.ref c0), (.int (0 : Int32)), (.ref b1), (.ref b1)])
  have Sto3 : Sto Z h1 b1 (.ref c0) := (stA OV1 V1 (Ins.self E1_c0))
  obtain ⟨cl3, Ar3, hin3⟩ := Ary.st (j := (0 : Int32)) V1 (by decide) (by show (0 : Int32).toNatClampNeg < 8; decide)
  obtain ⟨T3, h3, X3, e3, W3, st3⟩ := stR X2 hx hZ e2 Ar3 (j := (0 : Int32)) hin3 rfl Sto3 (g := (mkF m 10 #[.val (.int p0), .val (.int p1), .unset, .unset, .unset, .unset, .unset] [(.ref c0), (.int (0 : Int32)), (.ref b1), (.ref b1)])) rfl rfl (hb hby at_10)
  have K3 : Keep h1 h3 [b1] := Keep.of_wr W3
  have V3 : Ary Z h3 b1 (.object "com/example/vestwright/vestwright/plan/Event") [(.ref c0), .null, .null, .null, .null, .null, .null, .null] := Ary.set V1 W3 rfl
  have N3 := Fr.snoc X3 N0 ge_b1
  have E3_c0 : Exa Z h3 c0 "com/example/vestwright/vestwright/plan/Event" := E1_c0.keep K3
  have E3_c1 : Exa Z h3 c1 "com/example/vestwright/vestwright/plan/Event" := E1_c1.keep K3
  have E3_c2 : Exa Z h3 c2 "com/example/vestwright/vestwright/plan/Event" := E1_c2.keep K3
  have E3_c3 : Exa Z h3 c3 "com/example/vestwright/vestwright/plan/Event" := E1_c3.keep K3
  have E3_c4 : Exa Z h3 c4 "com/example/vestwright/vestwright/plan/Event" := E1_c4.keep K3
  have E3_c5 : Exa Z h3 c5 "com/example/vestwright/vestwright/plan/Event" := E1_c5.keep K3
  have E3_c6 : Exa Z h3 c6 "com/example/vestwright/vestwright/plan/Event" := E1_c6.keep K3
  have E3_c7 : Exa Z h3 c7 "com/example/vestwright/vestwright/plan/Event" := E1_c7.keep K3
  have E3_b1 : Exa Z h3 b1 "[Lcom/example/vestwright/vestwright/plan/Event;" := EX1.keep K3
  have OV3_b1 : OvA Z h3 b1 "com/example/vestwright/vestwright/plan/Event" := OV1.keep K3
  have F3_c0_beginsElectedPayouts : Fld Z h3 c0 "com/example/vestwright/vestwright/plan/Event" "beginsElectedPayouts" "Z" (.int (1 : Int32)) := F1_c0_beginsElectedPayouts.keep K3 (ninS ne_c0_b1 nin0)
  have F3_c2_beginsElectedPayouts : Fld Z h3 c2 "com/example/vestwright/vestwright/plan/Event" "beginsElectedPayouts" "Z" (.int (1 : Int32)) := F1_c2_beginsElectedPayouts.keep K3 (ninS ne_c2_b1 nin0)
  have F3_c3_beginsElectedPayouts : Fld Z h3 c3 "com/example/vestwright/vestwright/plan/Event" "beginsElectedPayouts" "Z" (.int (1 : Int32)) := F1_c3_beginsElectedPayouts.keep K3 (ninS ne_c3_b1 nin0)
  have O3 : Old Z n0 h3 := O1.keep K3 (allS ge_b1 all0)
  have Z3 : n0 ≤ h3.size := Nat.le_trans Z1 K3.1
  refine go st3 ?_
  show Run _ _ _ _ _ _ _ T3 (mkF m 11 #[.val (.int p0), .val (.int p1), .unset, .unset, .unset, .unset, .unset] [(.ref b1)])
  refine go (T' := T3) (f' := (mkF m 12 #[.val (.int p0), .val (.int p1), .unset, .unset, .unset, .unset, .unset] [(.ref b1), (.ref b1)])) (by intro t k; exact XS.dup X3.here hx rfl (hb hby at_11) rfl rfl k) ?_
  show Run _ _ _ _ _ _ _ T3 (mkF m 12 #[.val (.int p0), .val (.int p1), .unset, .unset, .unset, .unset, .unset] [(.ref b1), (.ref b1)])
  refine go (T' := T3) (f' := (mkF m 13 #[.val (.int p0), .val (.int p1), .unset, .unset, .unset, .unset, .unset] [(.int (1 : Int32)), (.ref b1), (.ref b1)])) (by intro t k; exact XS.iconst X3.here hx rfl (hb hby at_12) k) ?_
  show Run _ _ _ _ _ _ _ T3 (mkF m 13 #[.val (.int p0), .val (.int p1), .unset, .unset, .unset, .unset, .unset] [(.int (1 : Int32)), (.ref b1), (.ref b1)])
  obtain ⟨T4, X4, e4, st4⟩ := getS2 X3 hx hZ hown (host := "") (Or.inl (hw _ (List.mem_of_getElem? (i := 6) rfl))) Via.refl e3 (S_1.ext O3.2) (g := (mkF m 13 #[.val (.int p0), .val (.int p1), .unset, .unset, .unset, .unset, .unset] [(.int (1 : Int32)), (.ref b1), (.ref b1)])) rfl (hb hby at_13)
  refine go st4 ?_
  show Run _ _ _ _ _ _ _ T4 (mkF m 16 #[.val (.int p0), .val (.int p1), .unset, .unset, .unset, .unset, .unset] [(.ref c1), (.int (1 : Int32)), (.ref b1), (.ref b1)])
  have Sto5 : Sto Z h3 b1 (.ref c1) := (stA OV3_b1 V3 (Ins.self E3_c1))
  obtain ⟨cl5, Ar5, hin5⟩ := Ary.st (j := (1 : Int32)) V3 (by decide) (by show (1 : Int32).toNatClampNeg < 8; decide)
  obtain ⟨T5, h5, X5, e5, W5, st5⟩ := stR X4 hx hZ e4 Ar5 (j := (1 : Int32)) hin5 rfl Sto5 (g := (mkF m 16 #[.val (.int p0), .val (.int p1), .unset, .unset, .unset, .unset, .unset] [(.ref c1), (.int (1 : Int32)), (.ref b1), (.ref b1)])) rfl rfl (hb hby at_16)
  have K5 : Keep h3 h5 [b1] := Keep.of_wr W5
  have V5 : Ary Z h5 b1 (.object "com/example/vestwright/vestwright/plan/Event") [(.ref c0), (.ref c1), .null, .null, .null, .null, .null, .null] := Ary.set V3 W5 rfl
  have N5 := Fr.snoc X5 N3 ge_b1
  have E5_c0 : Exa Z h5 c0 "com/example/vestwright/vestwright/plan/Event" := E3_c0.keep K5
  have E5_c1 : Exa Z h5 c1 "com/example/vestwright/vestwright/plan/Event" := E3_c1.keep K5
  have E5_c2 : Exa Z h5 c2 "com/example/vestwright/vestwright/plan/Event" := E3_c2.keep K5
  have E5_c3 : Exa Z h5 c3 "com/example/vestwright/vestwright/plan/Event" := E3_c3.keep K5
  have E5_c4 : Exa Z h5 c4 "com/example/vestwright/vestwright/plan/Event" := E3_c4.keep K5
  have E5_c5 : Exa Z h5 c5 "com/example/vestwright/vestwright/plan/Event" := E3_c5.keep K5
  have E5_c6 : Exa Z h5 c6 "com/example/vestwright/vestwright/plan/Event" := E3_c6.keep K5
  have E5_c7 : Exa Z h5 c7 "com/example/vestwright/vestwright/plan/Event" := E3_c7.keep K5
  have E5_b1 : Exa Z h5 b1 "[Lcom/example/vestwright/vestwright/plan/Event;" := E3_b1.keep K5
  have OV5_b1 : OvA Z h5 b1 "com/example/vestwright/vestwright/plan/Event" := OV3_b1.keep K5
  have F5_c0_beginsElectedPayouts : Fld Z h5 c0 "com/example/vestwright/vestwright/plan/Event" "beginsElectedPayouts" "Z" (.int (1 : Int32)) := F3_c0_beginsElectedPayouts.keep K5 (ninS ne_c0_b1 nin0)
  have F5_c2_beginsElectedPayouts : Fld Z h5 c2 "com/example/vestwright/vestwright/plan/Event" "beginsElectedPayouts" "Z" (.int (1 : Int32)) := F3_c2_beginsElectedPayouts.keep K5 (ninS ne_c2_b1 nin0)
  have F5_c3_beginsElectedPayouts : Fld Z h5 c3 "com/example/vestwright/vestwright/plan/Event" "beginsElectedPayouts" "Z" (.int (1 : Int32)) := F3_c3_beginsElectedPayouts.keep K5 (ninS ne_c3_b1 nin0)
  have O5 : Old Z n0 h5 := O3.keep K5 (allS ge_b1 all0)
  have Z5 : n0 ≤ h5.size := Nat.le_trans Z3 K5.1
  refine go st5 ?_
  show Run _ _ _ _ _ _ _ T5 (mkF m 17 #[.val (.int p0), .val (.int p1), .unset, .unset, .unset, .unset, .unset] [(.ref b1)])
  refine go (T' := T5) (f' := (mkF m 18 #[.val (.int p0), .val (.int p1), .unset, .unset, .unset, .unset, .unset] [(.ref b1), (.ref b1)])) (by intro t k; exact XS.dup X5.here hx rfl (hb hby at_17) rfl rfl k) ?_
  show Run _ _ _ _ _ _ _ T5 (mkF m 18 #[.val (.int p0), .val (.int p1), .unset, .unset, .unset, .unset, .unset] [(.ref b1), (.ref b1)])
  refine go (T' := T5) (f' := (mkF m 19 #[.val (.int p0), .val (.int p1), .unset, .unset, .unset, .unset, .unset] [(.int (2 : Int32)), (.ref b1), (.ref b1)])) (by intro t k; exact XS.iconst X5.here hx rfl (hb hby at_18) k) ?_
  show Run _ _ _ _ _ _ _ T5 (mkF m 19 #[.val (.int p0), .val (.int p1), .unset, .unset, .unset, .unset, .unset] [(.int (2 : Int32)), (.ref b1), (.ref b1)])
  obtain ⟨T6, X6, e6, st6⟩ := getS2 X5 hx hZ hown (host := "") (Or.inl (hw _ (List.mem_of_getElem? (i := 8) rfl))) Via.refl e5 (S_2.ext O5.2) (g := (mkF m 19 #[.val (.int p0), .val (.int p1), .unset, .unset, .unset, .unset, .unset] [(.int (2 : Int32)), (.ref b1), (.ref b1)])) rfl (hb hby at_19)
  refine go st6 ?_
  show Run _ _ _ _ _ _ _ T6 (mkF m 22 #[.val (.int p0), .val (.int p1), .unset, .unset, .unset, .unset, .unset] [(.ref c2), (.int (2 : Int32)), (.ref b1), (.ref b1)])
  have Sto7 : Sto Z h5 b1 (.ref c2) := (stA OV5_b1 V5 (Ins.self E5_c2))
  obtain ⟨cl7, Ar7, hin7⟩ := Ary.st (j := (2 : Int32)) V5 (by decide) (by show (2 : Int32).toNatClampNeg < 8; decide)
  obtain ⟨T7, h7, X7, e7, W7, st7⟩ := stR X6 hx hZ e6 Ar7 (j := (2 : Int32)) hin7 rfl Sto7 (g := (mkF m 22 #[.val (.int p0), .val (.int p1), .unset, .unset, .unset, .unset, .unset] [(.ref c2), (.int (2 : Int32)), (.ref b1), (.ref b1)])) rfl rfl (hb hby at_22)
  have K7 : Keep h5 h7 [b1] := Keep.of_wr W7
  have V7 : Ary Z h7 b1 (.object "com/example/vestwright/vestwright/plan/Event") [(.ref c0), (.ref c1), (.ref c2), .null, .null, .null, .null, .null] := Ary.set V5 W7 rfl
  have N7 := Fr.snoc X7 N5 ge_b1
  have E7_c0 : Exa Z h7 c0 "com/example/vestwright/vestwright/plan/Event" := E5_c0.keep K7
  have E7_c1 : Exa Z h7 c1 "com/example/vestwright/vestwright/plan/Event" := E5_c1.keep K7
  have E7_c2 : Exa Z h7 c2 "com/example/vestwright/vestwright/plan/Event" := E5_c2.keep K7
  have E7_c3 : Exa Z h7 c3 "com/example/vestwright/vestwright/plan/Event" := E5_c3.keep K7
  have E7_c4 : Exa Z h7 c4 "com/example/vestwright/vestwright/plan/Event" := E5_c4.keep K7
  have E7_c5 : Exa Z h7 c5 "com/example/vestwright/vestwright/plan/Event" := E5_c5.keep K7
  have E7_c6 : Exa Z h7 c6 "com/example/vestwright/vestwright/plan/Event" := E5_c6.keep K7
  have E7_c7 : Exa Z h7 c7 "com/example/vestwright/vestwright/plan/Event" := E5_c7.keep K7
  have E7_b1 : Exa Z h7 b1 "[Lcom/example/vestwright/vestwright/plan/Event;" := E5_b1.keep K7
  have OV7_b1 : OvA Z h7 b1 "com/example/vestwright/vestwright/plan/Event" := OV5_b1.keep K7
  have F7_c0_beginsElectedPayouts : Fld Z h7 c0 "com/example/vestwright/vestwright/plan/Event" "beginsElectedPayouts" "Z" (.int (1 : Int32)) := F5_c0_beginsElectedPayouts.keep K7 (ninS ne_c0_b1 nin0)
  have F7_c2_beginsElectedPayouts : Fld Z h7 c2 "com/example/vestwright/vestwright/plan/Event" "beginsElectedPayouts" "Z" (.int (1 : Int32)) := F5_c2_beginsElectedPayouts.keep K7 (ninS ne_c2_b1 nin0)
  have F7_c3_beginsElectedPayouts : Fld Z h7 c3 "com/example/vestwright/vestwright/plan/Event" "beginsElectedPayouts" "Z" (.int (1 : Int32)) := F5_c3_beginsElectedPayouts.keep K7 (ninS ne_c3_b1 nin0)
  have O7 : Old Z n0 h7 := O5.keep K7 (allS ge_b1 all0)
  have Z7 : n0 ≤ h7.size := Nat.le_trans Z5 K7.1
  refine go st7 ?_
  show Run _ _ _ _ _ _ _ T7 (mkF m 23 #[.val (.int p0), .val (.int p1), .unset, .unset, .unset, .unset, .unset] [(.ref b1)])
  refine go (T' := T7) (f' := (mkF m 24 #[.val (.int p0), .val (.int p1), .unset, .unset, .unset, .unset, .unset] [(.ref b1), (.ref b1)])) (by intro t k; exact XS.dup X7.here hx rfl (hb hby at_23) rfl rfl k) ?_
  show Run _ _ _ _ _ _ _ T7 (mkF m 24 #[.val (.int p0), .val (.int p1), .unset, .unset, .unset, .unset, .unset] [(.ref b1), (.ref b1)])
  refine go (T' := T7) (f' := (mkF m 25 #[.val (.int p0), .val (.int p1), .unset, .unset, .unset, .unset, .unset] [(.int (3 : Int32)), (.ref b1), (.ref b1)])) (by intro t k; exact XS.iconst X7.here hx rfl (hb hby at_24) k) ?_
  show Run _ _ _ _ _ _ _ T7 (mkF m 25 #[.val (.int p0), .val (.int p1), .unset, .unset, .unset, .unset, .unset] [(.int (3 : Int32)), (.ref b1), (.ref b1)])
  obtain ⟨T8, X8, e8, st8⟩ := getS2 X7 hx hZ hown (host := "") (Or.inl (hw _ (List.mem_of_getElem? (i := 10) rfl))) Via.refl e7 (S_3.ext O7.2) (g := (mkF m 25 #[.val (.int p0), .val (.int p1), .unset, .unset, .unset, .unset, .unset] [(.int (3 : Int32)), (.ref b1), (.ref b1)])) rfl (hb hby at_25)
  refine go st8 ?_
  show Run _ _ _ _ _ _ _ T8 (mkF m 28 #[.val (.int p0), .val (.int p1), .unset, .unset, .unset, .unset, .unset] [(.ref c3), (.int (3 : Int32)), (.ref b1), (.ref b1)])
  have Sto9 : Sto Z h7 b1 (.ref c3) := (stA OV7_b1 V7 (Ins.self E7_c3))
  obtain ⟨cl9, Ar9, hin9⟩ := Ary.st (j := (3 : Int32)) V7 (by decide) (by show (3 : Int32).toNatClampNeg < 8; decide)
  obtain ⟨T9, h9, X9, e9, W9, st9⟩ := stR X8 hx hZ e8 Ar9 (j := (3 : Int32)) hin9 rfl Sto9 (g := (mkF m 28 #[.val (.int p0), .val (.int p1), .unset, .unset, .unset, .unset, .unset] [(.ref c3), (.int (3 : Int32)), (.ref b1), (.ref b1)])) rfl rfl (hb hby at_28)
  have K9 : Keep h7 h9 [b1] := Keep.of_wr W9
  have V9 : Ary Z h9 b1 (.object "com/example/vestwright/vestwright/plan/Event") [(.ref c0), (.ref c1), (.ref c2), (.ref c3), .null, .null, .null, .null] := Ary.set V7 W9 rfl
  have N9 := Fr.snoc X9 N7 ge_b1
  have E9_c0 : Exa Z h9 c0 "com/example/vestwright/vestwright/plan/Event" := E7_c0.keep K9
  have E9_c1 : Exa Z h9 c1 "com/example/vestwright/vestwright/plan/Event" := E7_c1.keep K9
  have E9_c2 : Exa Z h9 c2 "com/example/vestwright/vestwright/plan/Event" := E7_c2.keep K9
  have E9_c3 : Exa Z h9 c3 "com/example/vestwright/vestwright/plan/Event" := E7_c3.keep K9
  have E9_c4 : Exa Z h9 c4 "com/example/vestwright/vestwright/plan/Event" := E7_c4.keep K9
  have E9_c5 : Exa Z h9 c5 "com/example/vestwright/vestwright/plan/Event" := E7_c5.keep K9
  have E9_c6 : Exa Z h9 c6 "com/example/vestwright/vestwright/plan/Event" := E7_c6.keep K9
  have E9_c7 : Exa Z h9 c7 "com/example/vestwright/vestwright/plan/Event" := E7_c7.keep K9
  have E9_b1 : Exa Z h9 b1 "[Lcom/example/vestwright/vestwright/plan/Event;" := E7_b1.keep K9
  have OV9_b1 : OvA Z h9 b1 "com/example/vestwright/vestwright/plan/Event" := OV7_b1.keep K9
  have F9_c0_beginsElectedPayouts : Fld Z h9 c0 "com/example/vestwright/vestwright/plan/Event" "beginsElectedPayouts" "Z" (.int (1 : Int32)) := F7_c0_beginsElectedPayouts.keep K9 (ninS ne_c0_b1 nin0)
  have F9_c2_beginsElectedPayouts : Fld Z h9 c2 "com/example/vestwright/vestwright/plan/Event" "beginsElectedPayouts" "Z" (.int (1 : Int32)) := F7_c2_beginsElectedPayouts.keep K9 (ninS ne_c2_b1 nin0)
  have F9_c3_beginsElectedPayouts : Fld Z h9 c3 "com/example/vestwright/vestwright/plan/Event" "beginsElectedPayouts" "Z" (.int (1 : Int32)) := F7_c3_beginsElectedPayouts.keep K9 (ninS ne_c3_b1 nin0)
  have O9 : Old Z n0 h9 := O7.keep K9 (allS ge_b1 all0)
  have Z9 : n0 ≤ h9.size := Nat.le_trans Z7 K9.1
  refine go st9 ?_
  show Run _ _ _ _ _ _ _ T9 (mkF m 29 #[.val (.int p0), .val (.int p1), .unset, .unset, .unset, .unset, .unset] [(.ref b1)])
  refine go (T' := T9) (f' := (mkF m 30 #[.val (.int p0), .val (.int p1), .unset, .unset, .unset, .unset, .unset] [(.ref b1), (.ref b1)])) (by intro t k; exact XS.dup X9.here hx rfl (hb hby at_29) rfl rfl k) ?_
  show Run _ _ _ _ _ _ _ T9 (mkF m 30 #[.val (.int p0), .val (.int p1), .unset, .unset, .unset, .unset, .unset] [(.ref b1), (.ref b1)])
  refine go (T' := T9) (f' := (mkF m 31 #[.val (.int p0), .val (.int p1), .unset, .unset, .unset, .unset, .unset] [(.int (4 : Int32)), (.ref b1), (.ref b1)])) (by intro t k; exact XS.iconst X9.here hx rfl (hb hby at_30) k) ?_
  show Run _ _ _ _ _ _ _ T9 (mkF m 31 #[.val (.int p0), .val (.int p1), .unset, .unset, .unset, .unset, .unset] [(.int (4 : Int32)), (.ref b1), (.ref b1)])
  obtain ⟨T10, X10, e10, st10⟩ := getS2 X9 hx hZ hown (host := "") (Or.inl (hw _ (List.mem_of_getElem? (i := 12) rfl))) Via.refl e9 (S_4.ext O9.2) (g := (mkF m 31 #[.val (.int p0), .val (.int p1), .unset, .unset, .unset, .unset, .unset] [(.int (4 : Int32)), (.ref b1), (.ref b1)])) rfl (hb hby at_31)
  refine go st10 ?_
  show Run _ _ _ _ _ _ _ T10 (mkF m 34 #[.val (.int p0), .val (.int p1), .unset, .unset, .unset, .unset, .unset] [(.ref c4), (.int (4 : Int32)), (.ref b1), (.ref b1)])
  have Sto11 : Sto Z h9 b1 (.ref c4) := (stA OV9_b1 V9 (Ins.self E9_c4))
  obtain ⟨cl11, Ar11, hin11⟩ := Ary.st (j := (4 : Int32)) V9 (by decide) (by show (4 : Int32).toNatClampNeg < 8; decide)
  obtain ⟨T11, h11, X11, e11, W11, st11⟩ := stR X10 hx hZ e10 Ar11 (j := (4 : Int32)) hin11 rfl Sto11 (g := (mkF m 34 #[.val (.int p0), .val (.int p1), .unset, .unset, .unset, .unset, .unset] [(.ref c4), (.int (4 : Int32)), (.ref b1), (.ref b1)])) rfl rfl (hb hby at_34)
  have K11 : Keep h9 h11 [b1] := Keep.of_wr W11
  have V11 : Ary Z h11 b1 (.object "com/example/vestwright/vestwright/plan/Event") [(.ref c0), (.ref c1), (.ref c2), (.ref c3), (.ref c4), .null, .null, .null] := Ary.set V9 W11 rfl
  have N11 := Fr.snoc X11 N9 ge_b1
  have E11_c0 : Exa Z h11 c0 "com/example/vestwright/vestwright/plan/Event" := E9_c0.keep K11
  have E11_c1 : Exa Z h11 c1 "com/example/vestwright/vestwright/plan/Event" := E9_c1.keep K11
  have E11_c2 : Exa Z h11 c2 "com/example/vestwright/vestwright/plan/Event" := E9_c2.keep K11
  have E11_c3 : Exa Z h11 c3 "com/example/vestwright/vestwright/plan/Event" := E9_c3.keep K11
  have E11_c4 : Exa Z h11 c4 "com/example/vestwright/vestwright/plan/Event" := E9_c4.keep K11
  have E11_c5 : Exa Z h11 c5 "com/example/vestwright/vestwright/plan/Event" := E9_c5.keep K11
  have E11_c6 : Exa Z h11 c6 "com/example/vestwright/vestwright/plan/Event" := E9_c6.keep K11
  have E11_c7 : Exa Z h11 c7 "com/example/vestwright/vestwright/plan/Event" := E9_c7.keep K11
  have E11_b1 : Exa Z h11 b1 "[Lcom/example/vestwright/vestwright/plan/Event;" := E9_b1.keep K11
  have OV11_b1 : OvA Z h11 b1 "com/example/vestwright/vestwright/plan/Event" := OV9_b1.keep K11
  have F11_c0_beginsElectedPayouts : Fld Z h11 c0 "com/example/vestwright/vestwright/plan/Event" "beginsElectedPayouts" "Z" (.int (1 : Int32)) := F9_c0_beginsElectedPayouts.keep K11 (ninS ne_c0_b1 nin0)
  have F11_c2_beginsElectedPayouts : Fld Z h11 c2 "com/example/vestwright/vestwright/plan/Event" "beginsElectedPayouts" "Z" (.int (1 : Int32)) := F9_c2_beginsElectedPayouts.keep K11 (ninS ne_c2_b1 nin0)
  have F11_c3_beginsElectedPayouts : Fld Z h11 c3 "com/example/vestwright/vestwright/plan/Event" "beginsElectedPayouts" "Z" (.int (1 : Int32)) := F9_c3_beginsElectedPayouts.keep K11 (ninS ne_c3_b1 nin0)
  have O11 : Old Z n0 h11 := O9.keep K11 (allS ge_b1 all0)
  have Z11 : n0 ≤ h11.size := Nat.le_trans Z9 K11.1
  refine go st11 ?_
  show Run _ _ _ _ _ _ _ T11 (mkF m 35 #[.val (.int p0), .val (.int p1), .unset, .unset, .unset, .unset, .unset] [(.ref b1)])
  refine go (T' := T11) (f' := (mkF m 36 #[.val (.int p0), .val (.int p1), .unset, .unset, .unset, .unset, .unset] [(.ref b1), (.ref b1)])) (by intro t k; exact XS.dup X11.here hx rfl (hb hby at_35) rfl rfl k) ?_
  show Run _ _ _ _ _ _ _ T11 (mkF m 36 #[.val (.int p0), .val (.int p1), .unset, .unset, .unset, .unset, .unset] [(.ref b1), (.ref b1)])
  refine go (T' := T11) (f' := (mkF m 37 #[.val (.int p0), .val (.int p1), .unset, .unset, .unset, .unset, .unset] [(.int (5 : Int32)), (.ref b1), (.ref b1)])) (by intro t k; exact XS.iconst X11.here hx rfl (hb hby at_36) k) ?_
  show Run _ _ _ _ _ _ _ T11 (mkF m 37 #[.val (.int p0), .val (.int p1), .unset, .unset, .unset, .unset, .unset] [(.int (5 : Int32)), (.ref b1), (.ref b1)])
  obtain ⟨T12, X12, e12, st12⟩ := getS2 X11 hx hZ hown (host := "") (Or.inl (hw _ (List.mem_of_getElem? (i := 14) rfl))) Via.refl e11 (S_5.ext O11.2) (g := (mkF m 37 #[.val (.int p0), .val (.int p1), .unset, .unset, .unset, .unset, .unset] [(.int (5 : Int32)), (.ref b1), (.ref b1)])) rfl (hb hby at_37)
  refine go st12 ?_
  show Run _ _ _ _ _ _ _ T12 (mkF m 40 #[.val (.int p0), .val (.int p1), .unset, .unset, .unset, .unset, .unset] [(.ref c5), (.int (5 : Int32)), (.ref b1), (.ref b1)])
  have Sto13 : Sto Z h11 b1 (.ref c5) := (stA OV11_b1 V11 (Ins.self E11_c5))
  obtain ⟨cl13, Ar13, hin13⟩ := Ary.st (j := (5 : Int32)) V11 (by decide) (by show (5 : Int32).toNatClampNeg < 8; decide)
  obtain ⟨T13, h13, X13, e13, W13, st13⟩ := stR X12 hx hZ e12 Ar13 (j := (5 : Int32)) hin13 rfl Sto13 (g := (mkF m 40 #[.val (.int p0), .val (.int p1), .unset, .unset, .unset, .unset, .unset] [(.ref c5), (.int (5 : Int32)), (.ref b1), (.ref b1)])) rfl rfl (hb hby at_40)
  have K13 : Keep h11 h13 [b1] := Keep.of_wr W13
  have V13 : Ary Z h13 b1 (.object "com/example/vestwright/vestwright/plan/Event") [(.ref c0), (.ref c1), (.ref c2), (.ref c3), (.ref c4), (.ref c5), .null, .null] := Ary.set V11 W13 rfl
  have N13 := Fr.snoc X13 N11 ge_b1
  have E13_c0 : Exa Z h13 c0 "com/example/vestwright/vestwright/plan/Event" := E11_c0.keep K13
  have E13_c1 : Exa Z h13 c1 "com/example/vestwright/vestwright/plan/Event" := E11_c1.keep K13
  have E13_c2 : Exa Z h13 c2 "com/example/vestwright/vestwright/plan/Event" := E11_c2.keep K13
  have E13_c3 : Exa Z h13 c3 "com/example/vestwright/vestwright/plan/Event" := E11_c3.keep K13
  have E13_c4 : Exa Z h13 c4 "com/example/vestwright/vestwright/plan/Event" := E11_c4.keep K13
  have E13_c5 : Exa Z h13 c5 "com/example/vestwright/vestwright/plan/Event" := E11_c5.keep K13
  have E13_c6 : Exa Z h13 c6 "com/example/vestwright/vestwright/plan/Event" := E11_c6.keep K13
  have E13_c7 : Exa Z h13 c7 "com/example/vestwright/vestwright/plan/Event" := E11_c7.keep K13
  have E13_b1 : Exa Z h13 b1 "[Lcom/example/vestwright/vestwright/plan/Event;" := E11_b1.keep K13
  have OV13_b1 : OvA Z h13 b1 "com/example/vestwright/vestwright/plan/Event" := OV11_b1.keep K13
  have F13_c0_beginsElectedPayouts : Fld Z h13 c0 "com/example/vestwright/vestwright/plan/Event" "beginsElectedPayouts" "Z" (.int (1 : Int32)) := F11_c0_beginsElectedPayouts.keep K13 (ninS ne_c0_b1 nin0)
  have F13_c2_beginsElectedPayouts : Fld Z h13 c2 "com/example/vestwright/vestwright/plan/Event" "beginsElectedPayouts" "Z" (.int (1 : Int32)) := F11_c2_beginsElectedPayouts.keep K13 (ninS ne_c2_b1 nin0)
  have F13_c3_beginsElectedPayouts : Fld Z h13 c3 "com/example/vestwright/vestwright/plan/Event" "beginsElectedPayouts" "Z" (.int (1 : Int32)) := F11_c3_beginsElectedPayouts.keep K13 (ninS ne_c3_b1 nin0)
  have O13 : Old Z n0 h13 := O11.keep K13 (allS ge_b1 all0)
  have Z13 : n0 ≤ h13.size := Nat.le_trans Z11 K13.1
  refine go st13 ?_
  show Run _ _ _ _ _ _ _ T13 (mkF m 41 #[.val (.int p0), .val (.int p1), .unset, .unset, .unset, .unset, .unset] [(.ref b1)])
  refine go (T' := T13) (f' := (mkF m 42 #[.val (.int p0), .val (.int p1), .unset, .unset, .unset, .unset, .unset] [(.ref b1), (.ref b1)])) (by intro t k; exact XS.dup X13.here hx rfl (hb hby at_41) rfl rfl k) ?_
  show Run _ _ _ _ _ _ _ T13 (mkF m 42 #[.val (.int p0), .val (.int p1), .unset, .unset, .unset, .unset, .unset] [(.ref b1), (.ref b1)])
  refine go (T' := T13) (f' := (mkF m 44 #[.val (.int p0), .val (.int p1), .unset, .unset, .unset, .unset, .unset] [(.int (6 : Int32)), (.ref b1), (.ref b1)])) (by intro t k; exact XS.bipush X13.here hx rfl (hb hby at_42) k) ?_
  show Run _ _ _ _ _ _ _ T13 (mkF m 44 #[.val (.int p0), .val (.int p1), .unset, .unset, .unset, .unset, .unset] [(.int (6 : Int32)), (.ref b1), (.ref b1)])
  obtain ⟨T14, X14, e14, st14⟩ := getS2 X13 hx hZ hown (host := "") (Or.inl (hw _ (List.mem_of_getElem? (i := 16) rfl))) Via.refl e13 (S_6.ext O13.2) (g := (mkF m 44 #[.val (.int p0), .val (.int p1), .unset, .unset, .unset, .unset, .unset] [(.int (6 : Int32)), (.ref b1), (.ref b1)])) rfl (hb hby at_44)
  refine go st14 ?_
  show Run _ _ _ _ _ _ _ T14 (mkF m 47 #[.val (.int p0), .val (.int p1), .unset, .unset, .unset, .unset, .unset] [(.ref c6), (.int (6 : Int32)), (.ref b1), (.ref b1)])
  have Sto15 : Sto Z h13 b1 (.ref c6) := (stA OV13_b1 V13 (Ins.self E13_c6))
  obtain ⟨cl15, Ar15, hin15⟩ := Ary.st (j := (6 : Int32)) V13 (by decide) (by show (6 : Int32).toNatClampNeg < 8; decide)
  obtain ⟨T15, h15, X15, e15, W15, st15⟩ := stR X14 hx hZ e14 Ar15 (j := (6 : Int32)) hin15 rfl Sto15 (g := (mkF m 47 #[.val (.int p0), .val (.int p1), .unset, .unset, .unset, .unset, .unset] [(.ref c6), (.int (6 : Int32)), (.ref b1), (.ref b1)])) rfl rfl (hb hby at_47)
  have K15 : Keep h13 h15 [b1] := Keep.of_wr W15
  have V15 : Ary Z h15 b1 (.object "com/example/vestwright/vestwright/plan/Event") [(.ref c0), (.ref c1), (.ref c2), (.ref c3), (.ref c4), (.ref c5), (.ref c6), .null] := Ary.set V13 W15 rfl
  have N15 := Fr.snoc X15 N13 ge_b1
  have E15_c0 : Exa Z h15 c0 "com/example/vestwright/vestwright/plan/Event" := E13_c0.keep K15
  have E15_c1 : Exa Z h15 c1 "com/example/vestwright/vestwright/plan/Event" := E13_c1.keep K15
  have E15_c2 : Exa Z h15 c2 "com/example/vestwright/vestwright/plan/Event" := E13_c2.keep K15
  have E15_c3 : Exa Z h15 c3 "com/example/vestwright/vestwright/plan/Event" := E13_c3.keep K15
  have E15_c4 : Exa Z h15 c4 "com/example/vestwright/vestwright/plan/Event" := E13_c4.keep K15
  have E15_c5 : Exa Z h15 c5 "com/example/vestwright/vestwright/plan/Event" := E13_c5.keep K15
  have E15_c6 : Exa Z h15 c6 "com/example/vestwright/vestwright/plan/Event" := E13_c6.keep K15
  have E15_c7 : Exa Z h15 c7 "com/example/vestwright/vestwright/plan/Event" := E13_c7.keep K15
  have E15_b1 : Exa Z h15 b1 "[Lcom/example/vestwright/vestwright/plan/Event;" := E13_b1.keep K15
  have OV15_b1 : OvA Z h15 b1 "com/example/vestwright/vestwright/plan/Event" := OV13_b1.keep K15
  have F15_c0_beginsElectedPayouts : Fld Z h15 c0 "com/example/vestwright/vestwright/plan/Event" "beginsElectedPayouts" "Z" (.int (1 : Int32)) := F13_c0_beginsElectedPayouts.keep K15 (ninS ne_c0_b1 nin0)
  have F15_c2_beginsElectedPayouts : Fld Z h15 c2 "com/example/vestwright/vestwright/plan/Event" "beginsElectedPayouts" "Z" (.int (1 : Int32)) := F13_c2_beginsElectedPayouts.keep K15 (ninS ne_c2_b1 nin0)
  have F15_c3_beginsElectedPayouts : Fld Z h15 c3 "com/example/vestwright/vestwright/plan/Event" "beginsElectedPayouts" "Z" (.int (1 : Int32)) := F13_c3_beginsElectedPayouts.keep K15 (ninS ne_c3_b1 nin0)
  have O15 : Old Z n0 h15 := O13.keep K15 (allS ge_b1 all0)
  have Z15 : n0 ≤ h15.size := Nat.le_trans Z13 K15.1
  refine go st15 ?_
  show Run _ _ _ _ _ _ _ T15 (mkF m 48 #[.val (.int p0), .val (.int p1), .unset, .unset, .unset, .unset, .unset] [(.ref b1)])
  refine go (T' := T15) (f' := (mkF m 49 #[.val (.int p0), .val (.int p1), .unset, .unset, .unset, .unset, .unset] [(.ref b1), (.ref b1)])) (by intro t k; exact XS.dup X15.here hx rfl (hb hby at_48) rfl rfl k) ?_
  show Run _ _ _ _ _ _ _ T15 (mkF m 49 #[.val (.int p0), .val (.int p1), .unset, .unset, .unset, .unset, .unset] [(.ref b1), (.ref b1)])
  refine go (T' := T15) (f' := (mkF m 51 #[.val (.int p0), .val (.int p1), .unset, .unset, .unset, .unset, .unset] [(.int (7 : Int32)), (.ref b1), (.ref b1)])) (by intro t k; exact XS.bipush X15.here hx rfl (hb hby at_49) k) ?_
  show Run _ _ _ _ _ _ _ T15 (mkF m 51 #[.val (.int p0), .val (.int p1), .unset, .unset, .unset, .unset, .unset] [(.int (7 : Int32)), (.ref b1), (.ref b1)])
  obtain ⟨T16, X16, e16, st16⟩ := getS2 X15 hx hZ hown (host := "") (Or.inl (hw _ (List.mem_of_getElem? (i := 18) rfl))) Via.refl e15 (S_7.ext O15.2) (g := (mkF m 51 #[.val (.int p0), .val (.int p1), .unset, .unset, .unset, .unset, .unset] [(.int (7 : Int32)), (.ref b1), (.ref b1)])) rfl (hb hby at_51)
  refine go st16 ?_
  show Run _ _ _ _ _ _ _ T16 (mkF m 54 #[.val (.int p0), .val (.int p1), .unset, .unset, .unset, .unset, .unset] [(.ref c7), (.int (7 : Int32)), (.ref b1), (.ref b1)])
  have Sto17 : Sto Z h15 b1 (.ref c7) := (stA OV15_b1 V15 (Ins.self E15_c7))
  obtain ⟨cl17, Ar17, hin17⟩ := Ary.st (j := (7 : Int32)) V15 (by decide) (by show (7 : Int32).toNatClampNeg < 8; decide)
  obtain ⟨T17, h17, X17, e17, W17, st17⟩ := stR X16 hx hZ e16 Ar17 (j := (7 : Int32)) hin17 rfl Sto17 (g := (mkF m 54 #[.val (.int p0), .val (.int p1), .unset, .unset, .unset, .unset, .unset] [(.ref c7), (.int (7 : Int32)), (.ref b1), (.ref b1)])) rfl rfl (hb hby at_54)
  have K17 : Keep h15 h17 [b1] := Keep.of_wr W17
  have V17 : Ary Z h17 b1 (.object "com/example/vestwright/vestwright/plan/Event") [(.ref c0), (.ref c1), (.ref c2), (.ref c3), (.ref c4), (.ref c5), (.ref c6), (.ref c7)] := Ary.set V15 W17 rfl
  have N17 := Fr.snoc X17 N15 ge_b1
  have E17_c0 : Exa Z h17 c0 "com/example/vestwright/vestwright/plan/Event" := E15_c0.keep K17
  have E17_c1 : Exa Z h17 c1 "com/example/vestwright/vestwright/plan/Event" := E15_c1.keep K17
  have E17_c2 : Exa Z h17 c2 "com/example/vestwright/vestwright/plan/Event" := E15_c2.keep K17
  have E17_c3 : Exa Z h17 c3 "com/example/vestwright/vestwright/plan/Event" := E15_c3.keep K17
  have E17_c4 : Exa Z h17 c4 "com/example/vestwright/vestwright/plan/Event" := E15_c4.keep K17
  have E17_c5 : Exa Z h17 c5 "com/example/vestwright/vestwright/plan/Event" := E15_c5.keep K17
  have E17_c6 : Exa Z h17 c6 "com/example/vestwright/vestwright/plan/Event" := E15_c6.keep K17
  have E17_c7 : Exa Z h17 c7 "com/example/vestwright/vestwright/plan/Event" := E15_c7.keep K17
  have E17_b1 : Exa Z h17 b1 "[Lcom/example/vestwright/vestwright/plan/Event;" := E15_b1.keep K17
  have OV17_b1 : OvA Z h17 b1 "com/example/vestwright/vestwright/plan/Event" := OV15_b1.keep K17
  have F17_c0_beginsElectedPayouts : Fld Z h17 c0 "com/example/vestwright/vestwright/plan/Event" "beginsElectedPayouts" "Z" (.int (1 : Int32)) := F15_c0_beginsElectedPayouts.keep K17 (ninS ne_c0_b1 nin0)
  have F17_c2_beginsElectedPayouts : Fld Z h17 c2 "com/example/vestwright/vestwright/plan/Event" "beginsElectedPayouts" "Z" (.int (1 : Int32)) := F15_c2_beginsElectedPayouts.keep K17 (ninS ne_c2_b1 nin0)
  have F17_c3_beginsElectedPayouts : Fld Z h17 c3 "com/example/vestwright/vestwright/plan/Event" "beginsElectedPayouts" "Z" (.int (1 : Int32)) := F15_c3_beginsElectedPayouts.keep K17 (ninS ne_c3_b1 nin0)
  have O17 : Old Z n0 h17 := O15.keep K17 (allS ge_b1 all0)
  have Z17 : n0 ≤ h17.size := Nat.le_trans Z15 K17.1
  refine go st17 ?_
  show Run _ _ _ _ _ _ _ T17 (mkF m 55 #[.val (.int p0), .val (.int p1), .unset, .unset, .unset, .unset, .unset] [(.ref b1)])
  refine go (T' := T17) (f' := (mkF m 56 #[.val (.int p0), .val (.int p1), .val (.ref b1), .unset, .unset, .unset, .unset] [])) (by intro t k; exact XS.astoreN X17.here hx rfl (hb hby at_55) rfl rfl (l' := #[.val (.int p0), .val (.int p1), .val (.ref b1), .unset, .unset, .unset, .unset]) rfl k) ?_
  show Run _ _ _ _ _ _ _ T17 (mkF m 56 #[.val (.int p0), .val (.int p1), .val (.ref b1), .unset, .unset, .unset, .unset] [])
  obtain ⟨_, _, ⟨T18, Lz18, kz18, nz18⟩, -, X18, ⟨Lc18, hQ18, lz18, yz18, zz18⟩, st18⟩ := Jvm.LawKit.callS X17 hx (y := (⟨"com/example/vestwright/vestwright/plan/Event", "commencements", "()[Lcom/example/vestwright/vestwright/plan/Event;"⟩ : MethodName)) hown (mvT hZ (hw _ (List.mem_of_getElem? (i := 20) rfl))) (mvT hZ (hw _ (List.mem_of_getElem? (i := 21) rfl))) (mvT hZ (hw _ (List.mem_of_getElem? (i := 3) rfl))) (mvT hZ (hw _ (List.mem_of_getElem? (i := 22) rfl))) (by decide) (backOf (W := 0) (rm1 l Z aw hw []  c0 c2 c3 h17 n0 Z17 O17 S_0 E_0 S_2 E_2 S_3 E_3) hZ (hw _ (List.mem_of_getElem? (i := 22) rfl)) (hw _ (List.mem_of_getElem? (i := 3) rfl)) (by decide) (by decide)) (g := (mkF m 56 #[.val (.int p0), .val (.int p1), .val (.ref b1), .unset, .unset, .unset, .unset] [])) rfl (by rw [hml]; rfl) (argsL := []) (rest := []) (lenOf pd_28295bLcom2fexample2fvestwright2fvestwright2fplan2fEvent3b rfl) rfl (by show 2 * 0 + _ ≤ _; exact Nat.le_of_eq rfl) (hb hby at_56) (fun _ _ => ⟨rfl, e17, (by decide : 1 + 1 ≤ _), (by decide : 8 + 3 ≤ _)⟩)
  dsimp only [Pt.U, Pt.locs, Pt.cells, Pt.slots] at X18 lz18 yz18 zz18 st18 hQ18
  subst lz18 yz18 zz18
  obtain ⟨r18, rfl, sc18, N18q, K18, Aq18, OVq18⟩ := hQ18
  have ne_c0_r18 : c0 ≠ r18 := Nat.ne_of_lt (Nat.lt_of_lt_of_le E17_c0.lt sc18)
  have ne_c1_r18 : c1 ≠ r18 := Nat.ne_of_lt (Nat.lt_of_lt_of_le E17_c1.lt sc18)
  have ne_c2_r18 : c2 ≠ r18 := Nat.ne_of_lt (Nat.lt_of_lt_of_le E17_c2.lt sc18)
  have ne_c3_r18 : c3 ≠ r18 := Nat.ne_of_lt (Nat.lt_of_lt_of_le E17_c3.lt sc18)
  have ne_c4_r18 : c4 ≠ r18 := Nat.ne_of_lt (Nat.lt_of_lt_of_le E17_c4.lt sc18)
  have ne_c5_r18 : c5 ≠ r18 := Nat.ne_of_lt (Nat.lt_of_lt_of_le E17_c5.lt sc18)
  have ne_c6_r18 : c6 ≠ r18 := Nat.ne_of_lt (Nat.lt_of_lt_of_le E17_c6.lt sc18)
  have ne_c7_r18 : c7 ≠ r18 := Nat.ne_of_lt (Nat.lt_of_lt_of_le E17_c7.lt sc18)
  have ne_b1_r18 : b1 ≠ r18 := Nat.ne_of_lt (Nat.lt_of_lt_of_le E17_b1.lt sc18)
  have ge_r18 : n0 ≤ r18 := Nat.le_trans Z17 sc18
  have E18_c0 : Exa Z T18.heap c0 "com/example/vestwright/vestwright/plan/Event" := E17_c0.keep K18
  have E18_c1 : Exa Z T18.heap c1 "com/example/vestwright/vestwright/plan/Event" := E17_c1.keep K18
  have E18_c2 : Exa Z T18.heap c2 "com/example/vestwright/vestwright/plan/Event" := E17_c2.keep K18
  have E18_c3 : Exa Z T18.heap c3 "com/example/vestwright/vestwright/plan/Event" := E17_c3.keep K18
  have E18_c4 : Exa Z T18.heap c4 "com/example/vestwright/vestwright/plan/Event" := E17_c4.keep K18
  have E18_c5 : Exa Z T18.heap c5 "com/example/vestwright/vestwright/plan/Event" := E17_c5.keep K18
  have E18_c6 : Exa Z T18.heap c6 "com/example/vestwright/vestwright/plan/Event" := E17_c6.keep K18
  have E18_c7 : Exa Z T18.heap c7 "com/example/vestwright/vestwright/plan/Event" := E17_c7.keep K18
  have E18_b1 : Exa Z T18.heap b1 "[Lcom/example/vestwright/vestwright/plan/Event;" := E17_b1.keep K18
  have OV18_b1 : OvA Z T18.heap b1 "com/example/vestwright/vestwright/plan/Event" := OV17_b1.keep K18
  have F18_c0_beginsElectedPayouts : Fld Z T18.heap c0 "com/example/vestwright/vestwright/plan/Event" "beginsElectedPayouts" "Z" (.int (1 : Int32)) := F17_c0_beginsElectedPayouts.keep K18 nin0
  have F18_c2_beginsElectedPayouts : Fld Z T18.heap c2 "com/example/vestwright/vestwright/plan/Event" "beginsElectedPayouts" "Z" (.int (1 : Int32)) := F17_c2_beginsElectedPayouts.keep K18 nin0
  have F18_c3_beginsElectedPayouts : Fld Z T18.heap c3 "com/example/vestwright/vestwright/plan/Event" "beginsElectedPayouts" "Z" (.int (1 : Int32)) := F17_c3_beginsElectedPayouts.keep K18 nin0
  have A18_b1 : Ary Z T18.heap b1 (.object "com/example/vestwright/vestwright/plan/Event") [(.ref c0), (.ref c1), (.ref c2), (.ref c3), (.ref c4), (.ref c5), (.ref c6), (.ref c7)] := V17.keep K18 nin0
  have O18 : Old Z n0 T18.heap := O17.keep K18 all0
  have Z18 : n0 ≤ T18.heap.size := Nat.le_trans Z17 K18.1
  have N18 := Fr.app N17 N18q
  refine go st18 ?_
  show Run _ _ _ _ _ _ _ T18 (mkF m 59 #[.val (.int p0), .val (.int p1), .val (.ref b1), .unset, .unset, .unset, .unset] [(.ref r18)])
  refine go (T' := T18) (f' := (mkF m 60 #[.val (.int p0), .val (.int p1), .val (.ref b1), .val (.ref r18), .unset, .unset, .unset] [])) (by intro t k; exact XS.astoreN X18.here hx rfl (hb hby at_59) rfl rfl (l' := #[.val (.int p0), .val (.int p1), .val (.ref b1), .val (.ref r18), .unset, .unset, .unset]) rfl k) ?_
  show Run _ _ _ _ _ _ _ T18 (mkF m 60 #[.val (.int p0), .val (.int p1), .val (.ref b1), .val (.ref r18), .unset, .unset, .unset] [])
  refine go (T' := T18) (f' := (mkF m 61 #[.val (.int p0), .val (.int p1), .val (.ref b1), .val (.ref r18), .unset, .unset, .unset] [(.ref r18)])) (by intro t k; exact XS.aloadN X18.here hx rfl (hb hby at_60) rfl rfl k) ?_
  show Run _ _ _ _ _ _ _ T18 (mkF m 61 #[.val (.int p0), .val (.int p1), .val (.ref b1), .val (.ref r18), .unset, .unset, .unset] [(.ref r18)])
  obtain ⟨_, _, ⟨T19, Lz19, kz19, nz19⟩, -, X19, ⟨Lc19, hQ19, lz19, yz19, zz19⟩, st19⟩ := Jvm.LawKit.callS X18 hx (y := (⟨"com/example/vestwright/vestwright/plan/EventCommencementsPinLaw", "exact", "([Lcom/example/vestwright/vestwright/plan/Event;)Z"⟩ : MethodName)) hown (mvT hZ (hw _ (List.mem_of_getElem? (i := 27) rfl))) (mvT hZ (hw _ (List.mem_of_getElem? (i := 28) rfl))) (mvT hZ (hw _ (List.mem_of_getElem? (i := 29) rfl))) (mvT hZ (hw _ (List.mem_of_getElem? (i := 30) rfl))) (by decide) (backOf (W := 0) (rm2 l Z aw hw [] r18 c0 c2 c3 T18.heap n0 Z18 O18 S_0 S_2 S_3 Aq18) hZ (hw _ (List.mem_of_getElem? (i := 30) rfl)) (hw _ (List.mem_of_getElem? (i := 29) rfl)) (by decide) (by decide)) (g := (mkF m 61 #[.val (.int p0), .val (.int p1), .val (.ref b1), .val (.ref r18), .unset, .unset, .unset] [(.ref r18)])) rfl (by rw [hml]; rfl) (argsL := [(.ref r18)]) (rest := []) (lenOf pd_285bLcom2fexample2fvestwright2fvestwright2fplan2fEvent3b29Z rfl) rfl (by show 2 * 0 + _ ≤ _; exact Nat.le_of_eq rfl) (hb hby at_61) (fun _ _ => ⟨rfl, rfl, (by decide : 2 + 0 ≤ _), (by decide : 11 + 0 ≤ _)⟩)
  dsimp only [Pt.U, Pt.locs, Pt.cells, Pt.slots] at X19 lz19 yz19 zz19 st19 hQ19
  subst lz19 yz19 zz19
  obtain ⟨rfl, N19q, e19⟩ := hQ19
  have N19 := Fr.app N18 N19q
  refine go st19 ?_
  show Run _ _ _ _ _ _ _ T19 (mkF m 64 #[.val (.int p0), .val (.int p1), .val (.ref b1), .val (.ref r18), .unset, .unset, .unset] [(.int (1 : Int32))])
  refine go (T' := T19) (f' := (mkF m 69 #[.val (.int p0), .val (.int p1), .val (.ref b1), .val (.ref r18), .unset, .unset, .unset] [])) (by intro t k; exact XS.ifYes X19.here hx rfl (pc0 := 64) (pc' := 69) rfl (hb hby at_64) rfl ((if0 _ _).trans (feq (by decide : ¬ ((1 : Int32) = (0 : Int32)))).2) (by decide) (by decide) k) ?_
  show Run _ _ _ _ _ _ _ T19 (mkF m 69 #[.val (.int p0), .val (.int p1), .val (.ref b1), .val (.ref r18), .unset, .unset, .unset] [])
  refine go (T' := T19) (f' := (mkF m 70 #[.val (.int p0), .val (.int p1), .val (.ref b1), .val (.ref r18), .unset, .unset, .unset] [(.ref r18)])) (by intro t k; exact XS.aloadN X19.here hx rfl (hb hby at_69) rfl rfl k) ?_
  show Run _ _ _ _ _ _ _ T19 (mkF m 70 #[.val (.int p0), .val (.int p1), .val (.ref b1), .val (.ref r18), .unset, .unset, .unset] [(.ref r18)])
  refine go (T' := T19) (f' := (mkF m 71 #[.val (.int p0), .val (.int p1), .val (.ref b1), .val (.ref r18), .unset, .unset, .unset] [(.int (0 : Int32)), (.ref r18)])) (by intro t k; exact XS.iconst X19.here hx rfl (hb hby at_70) k) ?_
  show Run _ _ _ _ _ _ _ T19 (mkF m 71 #[.val (.int p0), .val (.int p1), .val (.ref b1), .val (.ref r18), .unset, .unset, .unset] [(.int (0 : Int32)), (.ref r18)])
  refine go (T' := T19) (f' := (mkF m 72 #[.val (.int p0), .val (.int p1), .val (.ref b1), .val (.ref r18), .unset, .unset, .unset] [(.ref c0)])) (by intro t k; exact ldR X19 hx hZ e19 Aq18 rfl (j := (0 : Int32)) (v := (.ref c0)) (by decide) rfl (g := (mkF m 71 #[.val (.int p0), .val (.int p1), .val (.ref b1), .val (.ref r18), .unset, .unset, .unset] [(.int (0 : Int32)), (.ref r18)])) rfl rfl (hb hby at_71) _ k) ?_
  show Run _ _ _ _ _ _ _ T19 (mkF m 72 #[.val (.int p0), .val (.int p1), .val (.ref b1), .val (.ref r18), .unset, .unset, .unset] [(.ref c0)])
  obtain ⟨cq20, kq20, q20a, q20b, q20c⟩ := isOf hZ e19 E18_c0
  obtain ⟨_, _, ⟨T20, Lz20, kz20, nz20⟩, -, X20, ⟨Lc20, hQ20, lz20, yz20, zz20⟩, st20⟩ := X19.virtualBack hx (y := (⟨"com/example/vestwright/vestwright/plan/Event", "beginsElectedPayouts", "()Z"⟩ : MethodName)) (z := (⟨"com/example/vestwright/vestwright/plan/Event", "beginsElectedPayouts", "()Z"⟩ : MethodName)) hown (mvT hZ (hw _ (List.mem_of_getElem? (i := 31) rfl))) (mvT hZ (hw _ (List.mem_of_getElem? (i := 32) rfl))) (notFace_of_selects (args := #[]) (mvT hZ (hw _ (List.mem_of_getElem? (i := 34) rfl)))) (mvT hZ (hw _ (List.mem_of_getElem? (i := 34) rfl))) (mvT hZ (hw _ (List.mem_of_getElem? (i := 33) rfl))) (by decide) (backOf (W := 0) (rm3 l Z aw hw [] c0  T18.heap n0 Z18 F18_c0_beginsElectedPayouts) hZ (hw _ (List.mem_of_getElem? (i := 35) rfl)) (hw _ (List.mem_of_getElem? (i := 3) rfl)) (by decide) (by decide)) q20a q20c (g := (mkF m 72 #[.val (.int p0), .val (.int p1), .val (.ref b1), .val (.ref r18), .unset, .unset, .unset] [(.ref c0)])) rfl (by rw [hml]; rfl) (Steps.refl _) (argsL := []) (rest := []) (lenOf pd_2829Z rfl) rfl (by show 2 * 0 + _ ≤ _; exact Nat.le_of_eq rfl) (hb hby at_72) (fun _ _ => ⟨rfl, e19, (by decide : 2 + 0 ≤ _), (by decide : 11 + 0 ≤ _)⟩)
  dsimp only [Pt.U, Pt.locs, Pt.cells, Pt.slots] at X20 lz20 yz20 zz20 st20 hQ20
  subst lz20 yz20 zz20
  obtain ⟨rfl, N20q, e20⟩ := hQ20
  have N20 := Fr.app N19 N20q
  refine go (fun _ k => st20.trans k) ?_
  show Run _ _ _ _ _ _ _ T20 (mkF m 75 #[.val (.int p0), .val (.int p1), .val (.ref b1), .val (.ref r18), .unset, .unset, .unset] [(.int (1 : Int32))])
  refine go (T' := T20) (f' := (mkF m 78 #[.val (.int p0), .val (.int p1), .val (.ref b1), .val (.ref r18), .unset, .unset, .unset] [])) (by intro t k; exact XS.ifNo X20.here hx rfl (hb hby at_75) rfl ((if0 _ _).trans (feq (by decide : ¬ ((1 : Int32) = (0 : Int32)))).1) k) ?_
  show Run _ _ _ _ _ _ _ T20 (mkF m 78 #[.val (.int p0), .val (.int p1), .val (.ref b1), .val (.ref r18), .unset, .unset, .unset] [])
  refine go (T' := T20) (f' := (mkF m 79 #[.val (.int p0), .val (.int p1), .val (.ref b1), .val (.ref r18), .unset, .unset, .unset] [(.ref r18)])) (by intro t k; exact XS.aloadN X20.here hx rfl (hb hby at_78) rfl rfl k) ?_
  show Run _ _ _ _ _ _ _ T20 (mkF m 79 #[.val (.int p0), .val (.int p1), .val (.ref b1), .val (.ref r18), .unset, .unset, .unset] [(.ref r18)])
  refine go (T' := T20) (f' := (mkF m 80 #[.val (.int p0), .val (.int p1), .val (.ref b1), .val (.ref r18), .unset, .unset, .unset] [(.int (1 : Int32)), (.ref r18)])) (by intro t k; exact XS.iconst X20.here hx rfl (hb hby at_79) k) ?_
  show Run _ _ _ _ _ _ _ T20 (mkF m 80 #[.val (.int p0), .val (.int p1), .val (.ref b1), .val (.ref r18), .unset, .unset, .unset] [(.int (1 : Int32)), (.ref r18)])
  refine go (T' := T20) (f' := (mkF m 81 #[.val (.int p0), .val (.int p1), .val (.ref b1), .val (.ref r18), .unset, .unset, .unset] [(.ref c2)])) (by intro t k; exact ldR X20 hx hZ e20 Aq18 rfl (j := (1 : Int32)) (v := (.ref c2)) (by decide) rfl (g := (mkF m 80 #[.val (.int p0), .val (.int p1), .val (.ref b1), .val (.ref r18), .unset, .unset, .unset] [(.int (1 : Int32)), (.ref r18)])) rfl rfl (hb hby at_80) _ k) ?_
  show Run _ _ _ _ _ _ _ T20 (mkF m 81 #[.val (.int p0), .val (.int p1), .val (.ref b1), .val (.ref r18), .unset, .unset, .unset] [(.ref c2)])
  obtain ⟨cq21, kq21, q21a, q21b, q21c⟩ := isOf hZ e20 E18_c2
  obtain ⟨_, _, ⟨T21, Lz21, kz21, nz21⟩, -, X21, ⟨Lc21, hQ21, lz21, yz21, zz21⟩, st21⟩ := X20.virtualBack hx (y := (⟨"com/example/vestwright/vestwright/plan/Event", "beginsElectedPayouts", "()Z"⟩ : MethodName)) (z := (⟨"com/example/vestwright/vestwright/plan/Event", "beginsElectedPayouts", "()Z"⟩ : MethodName)) hown (mvT hZ (hw _ (List.mem_of_getElem? (i := 31) rfl))) (mvT hZ (hw _ (List.mem_of_getElem? (i := 32) rfl))) (notFace_of_selects (args := #[]) (mvT hZ (hw _ (List.mem_of_getElem? (i := 34) rfl)))) (mvT hZ (hw _ (List.mem_of_getElem? (i := 34) rfl))) (mvT hZ (hw _ (List.mem_of_getElem? (i := 33) rfl))) (by decide) (backOf (W := 0) (rm3 l Z aw hw [] c2  T18.heap n0 Z18 F18_c2_beginsElectedPayouts) hZ (hw _ (List.mem_of_getElem? (i := 35) rfl)) (hw _ (List.mem_of_getElem? (i := 3) rfl)) (by decide) (by decide)) q21a q21c (g := (mkF m 81 #[.val (.int p0), .val (.int p1), .val (.ref b1), .val (.ref r18), .unset, .unset, .unset] [(.ref c2)])) rfl (by rw [hml]; rfl) (Steps.refl _) (argsL := []) (rest := []) (lenOf pd_2829Z rfl) rfl (by show 2 * 0 + _ ≤ _; exact Nat.le_of_eq rfl) (hb hby at_81) (fun _ _ => ⟨rfl, e20, (by decide : 2 + 0 ≤ _), (by decide : 11 + 0 ≤ _)⟩)
  dsimp only [Pt.U, Pt.locs, Pt.cells, Pt.slots] at X21 lz21 yz21 zz21 st21 hQ21
  subst lz21 yz21 zz21
  obtain ⟨rfl, N21q, e21⟩ := hQ21
  have N21 := Fr.app N20 N21q
  refine go (fun _ k => st21.trans k) ?_
  show Run _ _ _ _ _ _ _ T21 (mkF m 84 #[.val (.int p0), .val (.int p1), .val (.ref b1), .val (.ref r18), .unset, .unset, .unset] [(.int (1 : Int32))])
  refine go (T' := T21) (f' := (mkF m 87 #[.val (.int p0), .val (.int p1), .val (.ref b1), .val (.ref r18), .unset, .unset, .unset] [])) (by intro t k; exact XS.ifNo X21.here hx rfl (hb hby at_84) rfl ((if0 _ _).trans (feq (by decide : ¬ ((1 : Int32) = (0 : Int32)))).1) k) ?_
  show Run _ _ _ _ _ _ _ T21 (mkF m 87 #[.val (.int p0), .val (.int p1), .val (.ref b1), .val (.ref r18), .unset, .unset, .unset] [])
  refine go (T' := T21) (f' := (mkF m 88 #[.val (.int p0), .val (.int p1), .val (.ref b1), .val (.ref r18), .unset, .unset, .unset] [(.ref r18)])) (by intro t k; exact XS.aloadN X21.here hx rfl (hb hby at_87) rfl rfl k) ?_
  show Run _ _ _ _ _ _ _ T21 (mkF m 88 #[.val (.int p0), .val (.int p1), .val (.ref b1), .val (.ref r18), .unset, .unset, .unset] [(.ref r18)])
  refine go (T' := T21) (f' := (mkF m 89 #[.val (.int p0), .val (.int p1), .val (.ref b1), .val (.ref r18), .unset, .unset, .unset] [(.int (2 : Int32)), (.ref r18)])) (by intro t k; exact XS.iconst X21.here hx rfl (hb hby at_88) k) ?_
  show Run _ _ _ _ _ _ _ T21 (mkF m 89 #[.val (.int p0), .val (.int p1), .val (.ref b1), .val (.ref r18), .unset, .unset, .unset] [(.int (2 : Int32)), (.ref r18)])
  refine go (T' := T21) (f' := (mkF m 90 #[.val (.int p0), .val (.int p1), .val (.ref b1), .val (.ref r18), .unset, .unset, .unset] [(.ref c3)])) (by intro t k; exact ldR X21 hx hZ e21 Aq18 rfl (j := (2 : Int32)) (v := (.ref c3)) (by decide) rfl (g := (mkF m 89 #[.val (.int p0), .val (.int p1), .val (.ref b1), .val (.ref r18), .unset, .unset, .unset] [(.int (2 : Int32)), (.ref r18)])) rfl rfl (hb hby at_89) _ k) ?_
  show Run _ _ _ _ _ _ _ T21 (mkF m 90 #[.val (.int p0), .val (.int p1), .val (.ref b1), .val (.ref r18), .unset, .unset, .unset] [(.ref c3)])
  obtain ⟨cq22, kq22, q22a, q22b, q22c⟩ := isOf hZ e21 E18_c3
  obtain ⟨_, _, ⟨T22, Lz22, kz22, nz22⟩, -, X22, ⟨Lc22, hQ22, lz22, yz22, zz22⟩, st22⟩ := X21.virtualBack hx (y := (⟨"com/example/vestwright/vestwright/plan/Event", "beginsElectedPayouts", "()Z"⟩ : MethodName)) (z := (⟨"com/example/vestwright/vestwright/plan/Event", "beginsElectedPayouts", "()Z"⟩ : MethodName)) hown (mvT hZ (hw _ (List.mem_of_getElem? (i := 31) rfl))) (mvT hZ (hw _ (List.mem_of_getElem? (i := 32) rfl))) (notFace_of_selects (args := #[]) (mvT hZ (hw _ (List.mem_of_getElem? (i := 34) rfl)))) (mvT hZ (hw _ (List.mem_of_getElem? (i := 34) rfl))) (mvT hZ (hw _ (List.mem_of_getElem? (i := 33) rfl))) (by decide) (backOf (W := 0) (rm3 l Z aw hw [] c3  T18.heap n0 Z18 F18_c3_beginsElectedPayouts) hZ (hw _ (List.mem_of_getElem? (i := 35) rfl)) (hw _ (List.mem_of_getElem? (i := 3) rfl)) (by decide) (by decide)) q22a q22c (g := (mkF m 90 #[.val (.int p0), .val (.int p1), .val (.ref b1), .val (.ref r18), .unset, .unset, .unset] [(.ref c3)])) rfl (by rw [hml]; rfl) (Steps.refl _) (argsL := []) (rest := []) (lenOf pd_2829Z rfl) rfl (by show 2 * 0 + _ ≤ _; exact Nat.le_of_eq rfl) (hb hby at_90) (fun _ _ => ⟨rfl, e21, (by decide : 2 + 0 ≤ _), (by decide : 11 + 0 ≤ _)⟩)
  dsimp only [Pt.U, Pt.locs, Pt.cells, Pt.slots] at X22 lz22 yz22 zz22 st22 hQ22
  subst lz22 yz22 zz22
  obtain ⟨rfl, N22q, e22⟩ := hQ22
  have N22 := Fr.app N21 N22q
  refine go (fun _ k => st22.trans k) ?_
  show Run _ _ _ _ _ _ _ T22 (mkF m 93 #[.val (.int p0), .val (.int p1), .val (.ref b1), .val (.ref r18), .unset, .unset, .unset] [(.int (1 : Int32))])
  refine go (T' := T22) (f' := (mkF m 96 #[.val (.int p0), .val (.int p1), .val (.ref b1), .val (.ref r18), .unset, .unset, .unset] [])) (by intro t k; exact XS.ifNo X22.here hx rfl (hb hby at_93) rfl ((if0 _ _).trans (feq (by decide : ¬ ((1 : Int32) = (0 : Int32)))).1) k) ?_
  show Run _ _ _ _ _ _ _ T22 (mkF m 96 #[.val (.int p0), .val (.int p1), .val (.ref b1), .val (.ref r18), .unset, .unset, .unset] [])
  refine go (T' := T22) (f' := (mkF m 97 #[.val (.int p0), .val (.int p1), .val (.ref b1), .val (.ref r18), .unset, .unset, .unset] [(.int (1 : Int32))])) (by intro t k; exact XS.iconst X22.here hx rfl (hb hby at_96) k) ?_
  show Run _ _ _ _ _ _ _ T22 (mkF m 97 #[.val (.int p0), .val (.int p1), .val (.ref b1), .val (.ref r18), .unset, .unset, .unset] [(.int (1 : Int32))])
  refine go (T' := T22) (f' := (mkF m 101 #[.val (.int p0), .val (.int p1), .val (.ref b1), .val (.ref r18), .unset, .unset, .unset] [(.int (1 : Int32))])) (by intro t k; exact XS.goto X22.here hx rfl (pc0 := 97) (pc' := 101) rfl (hb hby at_97) (by decide) (by decide) k) ?_
  show Run _ _ _ _ _ _ _ T22 (mkF m 101 #[.val (.int p0), .val (.int p1), .val (.ref b1), .val (.ref r18), .unset, .unset, .unset] [(.int (1 : Int32))])
  refine go (T' := T22) (f' := (mkF m 103 #[.val (.int p0), .val (.int p1), .val (.ref b1), .val (.ref r18), .val (.int (1 : Int32)), .unset, .unset] [])) (by intro t k; exact XS.istore X22.here hx rfl (hb hby at_101) rfl (l' := #[.val (.int p0), .val (.int p1), .val (.ref b1), .val (.ref r18), .val (.int (1 : Int32)), .unset, .unset]) rfl k) ?_
  show Run _ _ _ _ _ _ _ T22 (mkF m 103 #[.val (.int p0), .val (.int p1), .val (.ref b1), .val (.ref r18), .val (.int (1 : Int32)), .unset, .unset] [])
  refine go (T' := T22) (f' := (mkF m 104 #[.val (.int p0), .val (.int p1), .val (.ref b1), .val (.ref r18), .val (.int (1 : Int32)), .unset, .unset] [(.int p0)])) (by intro t k; exact XS.iloadN X22.here hx rfl (hb hby at_103) rfl k) ?_
  show Run _ _ _ _ _ _ _ T22 (mkF m 104 #[.val (.int p0), .val (.int p1), .val (.ref b1), .val (.ref r18), .val (.int (1 : Int32)), .unset, .unset] [(.int p0)])
  refine go (T' := T22) (f' := (mkF m 106 #[.val (.int p0), .val (.int p1), .val (.ref b1), .val (.ref r18), .val (.int (1 : Int32)), .unset, .unset] [(.int (2147483647 : Int32)), (.int p0)])) (by intro t k; exact X22.ldcInt hx hown (mvT hZ (hw _ (List.mem_of_getElem? (i := 38) rfl))) (g := (mkF m 104 #[.val (.int p0), .val (.int p1), .val (.ref b1), .val (.ref r18), .val (.int (1 : Int32)), .unset, .unset] [(.int p0)])) rfl (hb hby at_104) _ k) ?_
  show Run _ _ _ _ _ _ _ T22 (mkF m 106 #[.val (.int p0), .val (.int p1), .val (.ref b1), .val (.ref r18), .val (.int (1 : Int32)), .unset, .unset] [(.int (2147483647 : Int32)), (.int p0)])
  refine go (T' := T22) (f' := (mkF m 107 #[.val (.int p0), .val (.int p1), .val (.ref b1), .val (.ref r18), .val (.int (1 : Int32)), .unset, .unset] [(.int (p0 &&& (2147483647 : Int32)))])) (by intro t k; exact XS.iand X22.here hx rfl (hb hby at_106) rfl k) ?_
  show Run _ _ _ _ _ _ _ T22 (mkF m 107 #[.val (.int p0), .val (.int p1), .val (.ref b1), .val (.ref r18), .val (.int (1 : Int32)), .unset, .unset] [(.int (p0 &&& (2147483647 : Int32)))])
  refine go (T' := T22) (f' := (mkF m 108 #[.val (.int p0), .val (.int p1), .val (.ref b1), .val (.ref r18), .val (.int (1 : Int32)), .unset, .unset] [(.int (3 : Int32)), (.int (p0 &&& (2147483647 : Int32)))])) (by intro t k; exact XS.iconst X22.here hx rfl (hb hby at_107) k) ?_
  show Run _ _ _ _ _ _ _ T22 (mkF m 108 #[.val (.int p0), .val (.int p1), .val (.ref b1), .val (.ref r18), .val (.int (1 : Int32)), .unset, .unset] [(.int (3 : Int32)), (.int (p0 &&& (2147483647 : Int32)))])
  refine go (T' := T22) (f' := (mkF m 109 #[.val (.int p0), .val (.int p1), .val (.ref b1), .val (.ref r18), .val (.int (1 : Int32)), .unset, .unset] [(.int ((p0 &&& (2147483647 : Int32)) % (3 : Int32)))])) (by intro t k; exact iremM X22 hx rfl (hb hby at_108) rfl (by decide) k) ?_
  show Run _ _ _ _ _ _ _ T22 (mkF m 109 #[.val (.int p0), .val (.int p1), .val (.ref b1), .val (.ref r18), .val (.int (1 : Int32)), .unset, .unset] [(.int ((p0 &&& (2147483647 : Int32)) % (3 : Int32)))])
  refine go (T' := T22) (f' := (mkF m 111 #[.val (.int p0), .val (.int p1), .val (.ref b1), .val (.ref r18), .val (.int (1 : Int32)), .val (.int ((p0 &&& (2147483647 : Int32)) % (3 : Int32))), .unset] [])) (by intro t k; exact XS.istore X22.here hx rfl (hb hby at_109) rfl (l' := #[.val (.int p0), .val (.int p1), .val (.ref b1), .val (.ref r18), .val (.int (1 : Int32)), .val (.int ((p0 &&& (2147483647 : Int32)) % (3 : Int32))), .unset]) rfl k) ?_
  show Run _ _ _ _ _ _ _ T22 (mkF m 111 #[.val (.int p0), .val (.int p1), .val (.ref b1), .val (.ref r18), .val (.int (1 : Int32)), .val (.int ((p0 &&& (2147483647 : Int32)) % (3 : Int32))), .unset] [])
  refine go (T' := T22) (f' := (mkF m 112 #[.val (.int p0), .val (.int p1), .val (.ref b1), .val (.ref r18), .val (.int (1 : Int32)), .val (.int ((p0 &&& (2147483647 : Int32)) % (3 : Int32))), .unset] [(.ref r18)])) (by intro t k; exact XS.aloadN X22.here hx rfl (hb hby at_111) rfl rfl k) ?_
  show Run _ _ _ _ _ _ _ T22 (mkF m 112 #[.val (.int p0), .val (.int p1), .val (.ref b1), .val (.ref r18), .val (.int (1 : Int32)), .val (.int ((p0 &&& (2147483647 : Int32)) % (3 : Int32))), .unset] [(.ref r18)])
  refine go (T' := T22) (f' := (mkF m 114 #[.val (.int p0), .val (.int p1), .val (.ref b1), .val (.ref r18), .val (.int (1 : Int32)), .val (.int ((p0 &&& (2147483647 : Int32)) % (3 : Int32))), .unset] [(.int ((p0 &&& (2147483647 : Int32)) % (3 : Int32))), (.ref r18)])) (by intro t k; exact XS.iload X22.here hx rfl (hb hby at_112) rfl k) ?_
  show Run _ _ _ _ _ _ _ T22 (mkF m 114 #[.val (.int p0), .val (.int p1), .val (.ref b1), .val (.ref r18), .val (.int (1 : Int32)), .val (.int ((p0 &&& (2147483647 : Int32)) % (3 : Int32))), .unset] [(.int ((p0 &&& (2147483647 : Int32)) % (3 : Int32))), (.ref r18)])
  refine go (T' := T22) (f' := (mkF m 115 #[.val (.int p0), .val (.int p1), .val (.ref b1), .val (.ref r18), .val (.int (1 : Int32)), .val (.int ((p0 &&& (2147483647 : Int32)) % (3 : Int32))), .unset] [(.ref b1), (.int ((p0 &&& (2147483647 : Int32)) % (3 : Int32))), (.ref r18)])) (by intro t k; exact XS.aloadN X22.here hx rfl (hb hby at_114) rfl rfl k) ?_
  show Run _ _ _ _ _ _ _ T22 (mkF m 115 #[.val (.int p0), .val (.int p1), .val (.ref b1), .val (.ref r18), .val (.int (1 : Int32)), .val (.int ((p0 &&& (2147483647 : Int32)) % (3 : Int32))), .unset] [(.ref b1), (.int ((p0 &&& (2147483647 : Int32)) % (3 : Int32))), (.ref r18)])
  refine go (T' := T22) (f' := (mkF m 116 #[.val (.int p0), .val (.int p1), .val (.ref b1), .val (.ref r18), .val (.int (1 : Int32)), .val (.int ((p0 &&& (2147483647 : Int32)) % (3 : Int32))), .unset] [(.int p1), (.ref b1), (.int ((p0 &&& (2147483647 : Int32)) % (3 : Int32))), (.ref r18)])) (by intro t k; exact XS.iloadN X22.here hx rfl (hb hby at_115) rfl k) ?_
  show Run _ _ _ _ _ _ _ T22 (mkF m 116 #[.val (.int p0), .val (.int p1), .val (.ref b1), .val (.ref r18), .val (.int (1 : Int32)), .val (.int ((p0 &&& (2147483647 : Int32)) % (3 : Int32))), .unset] [(.int p1), (.ref b1), (.int ((p0 &&& (2147483647 : Int32)) % (3 : Int32))), (.ref r18)])
  refine go (T' := T22) (f' := (mkF m 118 #[.val (.int p0), .val (.int p1), .val (.ref b1), .val (.ref r18), .val (.int (1 : Int32)), .val (.int ((p0 &&& (2147483647 : Int32)) % (3 : Int32))), .unset] [(.int (2147483647 : Int32)), (.int p1), (.ref b1), (.int ((p0 &&& (2147483647 : Int32)) % (3 : Int32))), (.ref r18)])) (by intro t k; exact X22.ldcInt hx hown (mvT hZ (hw _ (List.mem_of_getElem? (i := 38) rfl))) (g := (mkF m 116 #[.val (.int p0), .val (.int p1), .val (.ref b1), .val (.ref r18), .val (.int (1 : Int32)), .val (.int ((p0 &&& (2147483647 : Int32)) % (3 : Int32))), .unset] [(.int p1), (.ref b1), (.int ((p0 &&& (2147483647 : Int32)) % (3 : Int32))), (.ref r18)])) rfl (hb hby at_116) _ k) ?_
  show Run _ _ _ _ _ _ _ T22 (mkF m 118 #[.val (.int p0), .val (.int p1), .val (.ref b1), .val (.ref r18), .val (.int (1 : Int32)), .val (.int ((p0 &&& (2147483647 : Int32)) % (3 : Int32))), .unset] [(.int (2147483647 : Int32)), (.int p1), (.ref b1), (.int ((p0 &&& (2147483647 : Int32)) % (3 : Int32))), (.ref r18)])
  refine go (T' := T22) (f' := (mkF m 119 #[.val (.int p0), .val (.int p1), .val (.ref b1), .val (.ref r18), .val (.int (1 : Int32)), .val (.int ((p0 &&& (2147483647 : Int32)) % (3 : Int32))), .unset] [(.int (p1 &&& (2147483647 : Int32))), (.ref b1), (.int ((p0 &&& (2147483647 : Int32)) % (3 : Int32))), (.ref r18)])) (by intro t k; exact XS.iand X22.here hx rfl (hb hby at_118) rfl k) ?_
  show Run _ _ _ _ _ _ _ T22 (mkF m 119 #[.val (.int p0), .val (.int p1), .val (.ref b1), .val (.ref r18), .val (.int (1 : Int32)), .val (.int ((p0 &&& (2147483647 : Int32)) % (3 : Int32))), .unset] [(.int (p1 &&& (2147483647 : Int32))), (.ref b1), (.int ((p0 &&& (2147483647 : Int32)) % (3 : Int32))), (.ref r18)])
  refine go (T' := T22) (f' := (mkF m 121 #[.val (.int p0), .val (.int p1), .val (.ref b1), .val (.ref r18), .val (.int (1 : Int32)), .val (.int ((p0 &&& (2147483647 : Int32)) % (3 : Int32))), .unset] [(.int (8 : Int32)), (.int (p1 &&& (2147483647 : Int32))), (.ref b1), (.int ((p0 &&& (2147483647 : Int32)) % (3 : Int32))), (.ref r18)])) (by intro t k; exact XS.bipush X22.here hx rfl (hb hby at_119) k) ?_
  show Run _ _ _ _ _ _ _ T22 (mkF m 121 #[.val (.int p0), .val (.int p1), .val (.ref b1), .val (.ref r18), .val (.int (1 : Int32)), .val (.int ((p0 &&& (2147483647 : Int32)) % (3 : Int32))), .unset] [(.int (8 : Int32)), (.int (p1 &&& (2147483647 : Int32))), (.ref b1), (.int ((p0 &&& (2147483647 : Int32)) % (3 : Int32))), (.ref r18)])
  refine go (T' := T22) (f' := (mkF m 122 #[.val (.int p0), .val (.int p1), .val (.ref b1), .val (.ref r18), .val (.int (1 : Int32)), .val (.int ((p0 &&& (2147483647 : Int32)) % (3 : Int32))), .unset] [(.int ((p1 &&& (2147483647 : Int32)) % (8 : Int32))), (.ref b1), (.int ((p0 &&& (2147483647 : Int32)) % (3 : Int32))), (.ref r18)])) (by intro t k; exact iremM X22 hx rfl (hb hby at_121) rfl (by decide) k) ?_
  obtain ⟨y9, hy9, E9⟩ := own_pick (Z := Z) (h := T18.heap) p1 E18_c0 E18_c1 E18_c2 E18_c3 E18_c4 E18_c5 E18_c6 E18_c7
  show Run _ _ _ _ _ _ _ T22 (mkF m 122 #[.val (.int p0), .val (.int p1), .val (.ref b1), .val (.ref r18), .val (.int (1 : Int32)), .val (.int ((p0 &&& (2147483647 : Int32)) % (3 : Int32))), .unset] [(.int ((p1 &&& (2147483647 : Int32)) % (8 : Int32))), (.ref b1), (.int ((p0 &&& (2147483647 : Int32)) % (3 : Int32))), (.ref r18)])
  refine go (T' := T22) (f' := (mkF m 123 #[.val (.int p0), .val (.int p1), .val (.ref b1), .val (.ref r18), .val (.int (1 : Int32)), .val (.int ((p0 &&& (2147483647 : Int32)) % (3 : Int32))), .unset] [(.ref y9), (.int ((p0 &&& (2147483647 : Int32)) % (3 : Int32))), (.ref r18)])) (by intro t k; exact ldR X22 hx hZ e22 A18_b1 rfl (j := ((p1 &&& (2147483647 : Int32)) % (8 : Int32))) (v := (.ref y9)) (own_nn (own_mod p1 8 8 rfl (by decide)).1) hy9 (g := (mkF m 122 #[.val (.int p0), .val (.int p1), .val (.ref b1), .val (.ref r18), .val (.int (1 : Int32)), .val (.int ((p0 &&& (2147483647 : Int32)) % (3 : Int32))), .unset] [(.int ((p1 &&& (2147483647 : Int32)) % (8 : Int32))), (.ref b1), (.int ((p0 &&& (2147483647 : Int32)) % (3 : Int32))), (.ref r18)])) rfl rfl (hb hby at_122) _ k) ?_
  show Run _ _ _ _ _ _ _ T22 (mkF m 123 #[.val (.int p0), .val (.int p1), .val (.ref b1), .val (.ref r18), .val (.int (1 : Int32)), .val (.int ((p0 &&& (2147483647 : Int32)) % (3 : Int32))), .unset] [(.ref y9), (.int ((p0 &&& (2147483647 : Int32)) % (3 : Int32))), (.ref r18)])
  have Sto23 : Sto Z T18.heap r18 (.ref y9) := (stA OVq18 Aq18 (Ins.self E9))
  obtain ⟨cl23, Ar23, hin23⟩ := Ary.st (j := ((p0 &&& (2147483647 : Int32)) % (3 : Int32))) Aq18 (own_nn (own_mod p0 3 3 rfl (by decide)).1) (by have := own_mod p0 3 3 rfl (by decide); rw [own_cl]; show _ < 3; omega)
  obtain ⟨T23, h23, X23, e23, W23, st23⟩ := stR X22 hx hZ e22 Ar23 (j := ((p0 &&& (2147483647 : Int32)) % (3 : Int32))) hin23 rfl Sto23 (g := (mkF m 123 #[.val (.int p0), .val (.int p1), .val (.ref b1), .val (.ref r18), .val (.int (1 : Int32)), .val (.int ((p0 &&& (2147483647 : Int32)) % (3 : Int32))), .unset] [(.ref y9), (.int ((p0 &&& (2147483647 : Int32)) % (3 : Int32))), (.ref r18)])) rfl rfl (hb hby at_123)
  have K23 : Keep T18.heap h23 [r18] := Keep.of_wr W23
  have V23 : Ary Z h23 r18 (.object "com/example/vestwright/vestwright/plan/Event") (List.set [(.ref c0), (.ref c2), (.ref c3)] (((p0 &&& (2147483647 : Int32)) % (3 : Int32))).toNatClampNeg (.ref y9)) := Ary.set Aq18 W23 rfl
  have N23 := Fr.snoc X23 N22 ge_r18
  have E23_c0 : Exa Z h23 c0 "com/example/vestwright/vestwright/plan/Event" := E18_c0.keep K23
  have E23_c1 : Exa Z h23 c1 "com/example/vestwright/vestwright/plan/Event" := E18_c1.keep K23
  have E23_c2 : Exa Z h23 c2 "com/example/vestwright/vestwright/plan/Event" := E18_c2.keep K23
  have E23_c3 : Exa Z h23 c3 "com/example/vestwright/vestwright/plan/Event" := E18_c3.keep K23
  have E23_c4 : Exa Z h23 c4 "com/example/vestwright/vestwright/plan/Event" := E18_c4.keep K23
  have E23_c5 : Exa Z h23 c5 "com/example/vestwright/vestwright/plan/Event" := E18_c5.keep K23
  have E23_c6 : Exa Z h23 c6 "com/example/vestwright/vestwright/plan/Event" := E18_c6.keep K23
  have E23_c7 : Exa Z h23 c7 "com/example/vestwright/vestwright/plan/Event" := E18_c7.keep K23
  have E23_b1 : Exa Z h23 b1 "[Lcom/example/vestwright/vestwright/plan/Event;" := E18_b1.keep K23
  have E23_y9 : Exa Z h23 y9 "com/example/vestwright/vestwright/plan/Event" := E9.keep K23
  have OV23_b1 : OvA Z h23 b1 "com/example/vestwright/vestwright/plan/Event" := OV18_b1.keep K23
  have OV23_r18 : OvA Z h23 r18 "com/example/vestwright/vestwright/plan/Event" := OVq18.keep K23
  have F23_c0_beginsElectedPayouts : Fld Z h23 c0 "com/example/vestwright/vestwright/plan/Event" "beginsElectedPayouts" "Z" (.int (1 : Int32)) := F18_c0_beginsElectedPayouts.keep K23 (ninS ne_c0_r18 nin0)
  have F23_c2_beginsElectedPayouts : Fld Z h23 c2 "com/example/vestwright/vestwright/plan/Event" "beginsElectedPayouts" "Z" (.int (1 : Int32)) := F18_c2_beginsElectedPayouts.keep K23 (ninS ne_c2_r18 nin0)
  have F23_c3_beginsElectedPayouts : Fld Z h23 c3 "com/example/vestwright/vestwright/plan/Event" "beginsElectedPayouts" "Z" (.int (1 : Int32)) := F18_c3_beginsElectedPayouts.keep K23 (ninS ne_c3_r18 nin0)
  have A23_b1 : Ary Z h23 b1 (.object "com/example/vestwright/vestwright/plan/Event") [(.ref c0), (.ref c1), (.ref c2), (.ref c3), (.ref c4), (.ref c5), (.ref c6), (.ref c7)] := A18_b1.keep K23 (ninS ne_b1_r18 nin0)
  have O23 : Old Z n0 h23 := O18.keep K23 (allS ge_r18 all0)
  have Z23 : n0 ≤ h23.size := Nat.le_trans Z18 K23.1
  refine go st23 ?_
  show Run _ _ _ _ _ _ _ T23 (mkF m 124 #[.val (.int p0), .val (.int p1), .val (.ref b1), .val (.ref r18), .val (.int (1 : Int32)), .val (.int ((p0 &&& (2147483647 : Int32)) % (3 : Int32))), .unset] [])
  obtain ⟨_, _, ⟨T24, Lz24, kz24, nz24⟩, -, X24, ⟨Lc24, hQ24, lz24, yz24, zz24⟩, st24⟩ := Jvm.LawKit.callS X23 hx (y := (⟨"com/example/vestwright/vestwright/plan/Event", "commencements", "()[Lcom/example/vestwright/vestwright/plan/Event;"⟩ : MethodName)) hown (mvT hZ (hw _ (List.mem_of_getElem? (i := 20) rfl))) (mvT hZ (hw _ (List.mem_of_getElem? (i := 21) rfl))) (mvT hZ (hw _ (List.mem_of_getElem? (i := 3) rfl))) (mvT hZ (hw _ (List.mem_of_getElem? (i := 22) rfl))) (by decide) (backOf (W := 0) (rm1 l Z aw hw []  c0 c2 c3 h23 n0 Z23 O23 S_0 E_0 S_2 E_2 S_3 E_3) hZ (hw _ (List.mem_of_getElem? (i := 22) rfl)) (hw _ (List.mem_of_getElem? (i := 3) rfl)) (by decide) (by decide)) (g := (mkF m 124 #[.val (.int p0), .val (.int p1), .val (.ref b1), .val (.ref r18), .val (.int (1 : Int32)), .val (.int ((p0 &&& (2147483647 : Int32)) % (3 : Int32))), .unset] [])) rfl (by rw [hml]; rfl) (argsL := []) (rest := []) (lenOf pd_28295bLcom2fexample2fvestwright2fvestwright2fplan2fEvent3b rfl) rfl (by show 2 * 0 + _ ≤ _; exact Nat.le_of_eq rfl) (hb hby at_124) (fun _ _ => ⟨rfl, e23, (by decide : 2 + 1 ≤ _), (by decide : 11 + 3 ≤ _)⟩)
  dsimp only [Pt.U, Pt.locs, Pt.cells, Pt.slots] at X24 lz24 yz24 zz24 st24 hQ24
  subst lz24 yz24 zz24
  obtain ⟨r24, rfl, sc24, N24q, K24, Aq24, OVq24⟩ := hQ24
  have ne_c0_r24 : c0 ≠ r24 := Nat.ne_of_lt (Nat.lt_of_lt_of_le E23_c0.lt sc24)
  have ne_c1_r24 : c1 ≠ r24 := Nat.ne_of_lt (Nat.lt_of_lt_of_le E23_c1.lt sc24)
  have ne_c2_r24 : c2 ≠ r24 := Nat.ne_of_lt (Nat.lt_of_lt_of_le E23_c2.lt sc24)
  have ne_c3_r24 : c3 ≠ r24 := Nat.ne_of_lt (Nat.lt_of_lt_of_le E23_c3.lt sc24)
  have ne_c4_r24 : c4 ≠ r24 := Nat.ne_of_lt (Nat.lt_of_lt_of_le E23_c4.lt sc24)
  have ne_c5_r24 : c5 ≠ r24 := Nat.ne_of_lt (Nat.lt_of_lt_of_le E23_c5.lt sc24)
  have ne_c6_r24 : c6 ≠ r24 := Nat.ne_of_lt (Nat.lt_of_lt_of_le E23_c6.lt sc24)
  have ne_c7_r24 : c7 ≠ r24 := Nat.ne_of_lt (Nat.lt_of_lt_of_le E23_c7.lt sc24)
  have ne_b1_r24 : b1 ≠ r24 := Nat.ne_of_lt (Nat.lt_of_lt_of_le E23_b1.lt sc24)
  have ne_y9_r24 : y9 ≠ r24 := Nat.ne_of_lt (Nat.lt_of_lt_of_le E23_y9.lt sc24)
  have ne_r18_r24 : r18 ≠ r24 := Nat.ne_of_lt (Nat.lt_of_lt_of_le V23.lt sc24)
  have ge_r24 : n0 ≤ r24 := Nat.le_trans Z23 sc24
  have E24_c0 : Exa Z T24.heap c0 "com/example/vestwright/vestwright/plan/Event" := E23_c0.keep K24
  have E24_c1 : Exa Z T24.heap c1 "com/example/vestwright/vestwright/plan/Event" := E23_c1.keep K24
  have E24_c2 : Exa Z T24.heap c2 "com/example/vestwright/vestwright/plan/Event" := E23_c2.keep K24
  have E24_c3 : Exa Z T24.heap c3 "com/example/vestwright/vestwright/plan/Event" := E23_c3.keep K24
  have E24_c4 : Exa Z T24.heap c4 "com/example/vestwright/vestwright/plan/Event" := E23_c4.keep K24
  have E24_c5 : Exa Z T24.heap c5 "com/example/vestwright/vestwright/plan/Event" := E23_c5.keep K24
  have E24_c6 : Exa Z T24.heap c6 "com/example/vestwright/vestwright/plan/Event" := E23_c6.keep K24
  have E24_c7 : Exa Z T24.heap c7 "com/example/vestwright/vestwright/plan/Event" := E23_c7.keep K24
  have E24_b1 : Exa Z T24.heap b1 "[Lcom/example/vestwright/vestwright/plan/Event;" := E23_b1.keep K24
  have E24_y9 : Exa Z T24.heap y9 "com/example/vestwright/vestwright/plan/Event" := E23_y9.keep K24
  have OV24_b1 : OvA Z T24.heap b1 "com/example/vestwright/vestwright/plan/Event" := OV23_b1.keep K24
  have OV24_r18 : OvA Z T24.heap r18 "com/example/vestwright/vestwright/plan/Event" := OV23_r18.keep K24
  have F24_c0_beginsElectedPayouts : Fld Z T24.heap c0 "com/example/vestwright/vestwright/plan/Event" "beginsElectedPayouts" "Z" (.int (1 : Int32)) := F23_c0_beginsElectedPayouts.keep K24 nin0
  have F24_c2_beginsElectedPayouts : Fld Z T24.heap c2 "com/example/vestwright/vestwright/plan/Event" "beginsElectedPayouts" "Z" (.int (1 : Int32)) := F23_c2_beginsElectedPayouts.keep K24 nin0
  have F24_c3_beginsElectedPayouts : Fld Z T24.heap c3 "com/example/vestwright/vestwright/plan/Event" "beginsElectedPayouts" "Z" (.int (1 : Int32)) := F23_c3_beginsElectedPayouts.keep K24 nin0
  have A24_b1 : Ary Z T24.heap b1 (.object "com/example/vestwright/vestwright/plan/Event") [(.ref c0), (.ref c1), (.ref c2), (.ref c3), (.ref c4), (.ref c5), (.ref c6), (.ref c7)] := A23_b1.keep K24 nin0
  have A24_r18 : Ary Z T24.heap r18 (.object "com/example/vestwright/vestwright/plan/Event") (List.set [(.ref c0), (.ref c2), (.ref c3)] (((p0 &&& (2147483647 : Int32)) % (3 : Int32))).toNatClampNeg (.ref y9)) := V23.keep K24 nin0
  have O24 : Old Z n0 T24.heap := O23.keep K24 all0
  have Z24 : n0 ≤ T24.heap.size := Nat.le_trans Z23 K24.1
  have N24 := Fr.app N23 N24q
  refine go st24 ?_
  show Run _ _ _ _ _ _ _ T24 (mkF m 127 #[.val (.int p0), .val (.int p1), .val (.ref b1), .val (.ref r18), .val (.int (1 : Int32)), .val (.int ((p0 &&& (2147483647 : Int32)) % (3 : Int32))), .unset] [(.ref r24)])
  refine go (T' := T24) (f' := (mkF m 129 #[.val (.int p0), .val (.int p1), .val (.ref b1), .val (.ref r18), .val (.int (1 : Int32)), .val (.int ((p0 &&& (2147483647 : Int32)) % (3 : Int32))), .val (.ref r24)] [])) (by intro t k; exact XS.astore X24.here hx rfl (hb hby at_127) rfl rfl (l' := #[.val (.int p0), .val (.int p1), .val (.ref b1), .val (.ref r18), .val (.int (1 : Int32)), .val (.int ((p0 &&& (2147483647 : Int32)) % (3 : Int32))), .val (.ref r24)]) rfl k) ?_
  show Run _ _ _ _ _ _ _ T24 (mkF m 129 #[.val (.int p0), .val (.int p1), .val (.ref b1), .val (.ref r18), .val (.int (1 : Int32)), .val (.int ((p0 &&& (2147483647 : Int32)) % (3 : Int32))), .val (.ref r24)] [])
  refine go (T' := T24) (f' := (mkF m 131 #[.val (.int p0), .val (.int p1), .val (.ref b1), .val (.ref r18), .val (.int (1 : Int32)), .val (.int ((p0 &&& (2147483647 : Int32)) % (3 : Int32))), .val (.ref r24)] [(.int (1 : Int32))])) (by intro t k; exact XS.iload X24.here hx rfl (hb hby at_129) rfl k) ?_
  show Run _ _ _ _ _ _ _ T24 (mkF m 131 #[.val (.int p0), .val (.int p1), .val (.ref b1), .val (.ref r18), .val (.int (1 : Int32)), .val (.int ((p0 &&& (2147483647 : Int32)) % (3 : Int32))), .val (.ref r24)] [(.int (1 : Int32))])
  refine go (T' := T24) (f' := (mkF m 134 #[.val (.int p0), .val (.int p1), .val (.ref b1), .val (.ref r18), .val (.int (1 : Int32)), .val (.int ((p0 &&& (2147483647 : Int32)) % (3 : Int32))), .val (.ref r24)] [])) (by intro t k; exact XS.ifNo X24.here hx rfl (hb hby at_131) rfl ((if0 _ _).trans (feq (by decide : ¬ ((1 : Int32) = (0 : Int32)))).1) k) ?_
  show Run _ _ _ _ _ _ _ T24 (mkF m 134 #[.val (.int p0), .val (.int p1), .val (.ref b1), .val (.ref r18), .val (.int (1 : Int32)), .val (.int ((p0 &&& (2147483647 : Int32)) % (3 : Int32))), .val (.ref r24)] [])
  refine go (T' := T24) (f' := (mkF m 136 #[.val (.int p0), .val (.int p1), .val (.ref b1), .val (.ref r18), .val (.int (1 : Int32)), .val (.int ((p0 &&& (2147483647 : Int32)) % (3 : Int32))), .val (.ref r24)] [(.ref r24)])) (by intro t k; exact XS.aload X24.here hx rfl (hb hby at_134) rfl rfl k) ?_
  show Run _ _ _ _ _ _ _ T24 (mkF m 136 #[.val (.int p0), .val (.int p1), .val (.ref b1), .val (.ref r18), .val (.int (1 : Int32)), .val (.int ((p0 &&& (2147483647 : Int32)) % (3 : Int32))), .val (.ref r24)] [(.ref r24)])
  refine go (T' := T24) (f' := (mkF m 137 #[.val (.int p0), .val (.int p1), .val (.ref b1), .val (.ref r18), .val (.int (1 : Int32)), .val (.int ((p0 &&& (2147483647 : Int32)) % (3 : Int32))), .val (.ref r24)] [(.ref r18), (.ref r24)])) (by intro t k; exact XS.aloadN X24.here hx rfl (hb hby at_136) rfl rfl k) ?_
  show Run _ _ _ _ _ _ _ T24 (mkF m 137 #[.val (.int p0), .val (.int p1), .val (.ref b1), .val (.ref r18), .val (.int (1 : Int32)), .val (.int ((p0 &&& (2147483647 : Int32)) % (3 : Int32))), .val (.ref r24)] [(.ref r18), (.ref r24)])
  refine go (T' := T24) (f' := (mkF m 140 #[.val (.int p0), .val (.int p1), .val (.ref b1), .val (.ref r18), .val (.int (1 : Int32)), .val (.int ((p0 &&& (2147483647 : Int32)) % (3 : Int32))), .val (.ref r24)] [])) (by intro t k; exact Jvm.RoadKit.acmp (g := (mkF m 137 #[.val (.int p0), .val (.int p1), .val (.ref b1), .val (.ref r18), .val (.int (1 : Int32)), .val (.int ((p0 &&& (2147483647 : Int32)) % (3 : Int32))), .val (.ref r24)] [(.ref r18), (.ref r24)])) X24 hx rfl rfl rfl (pc0 := 137) (pc' := 140) (same := false) rfl (hb hby at_137) rfl (decide_eq_false fun q => (fun q => ne_r18_r24 q.symm : ¬ (r24 = r18)) (Value.ref.inj q)) (by decide) (by decide) k) ?_
  show Run _ _ _ _ _ _ _ T24 (mkF m 140 #[.val (.int p0), .val (.int p1), .val (.ref b1), .val (.ref r18), .val (.int (1 : Int32)), .val (.int ((p0 &&& (2147483647 : Int32)) % (3 : Int32))), .val (.ref r24)] [])
  refine go (T' := T24) (f' := (mkF m 142 #[.val (.int p0), .val (.int p1), .val (.ref b1), .val (.ref r18), .val (.int (1 : Int32)), .val (.int ((p0 &&& (2147483647 : Int32)) % (3 : Int32))), .val (.ref r24)] [(.ref r24)])) (by intro t k; exact XS.aload X24.here hx rfl (hb hby at_140) rfl rfl k) ?_
  show Run _ _ _ _ _ _ _ T24 (mkF m 142 #[.val (.int p0), .val (.int p1), .val (.ref b1), .val (.ref r18), .val (.int (1 : Int32)), .val (.int ((p0 &&& (2147483647 : Int32)) % (3 : Int32))), .val (.ref r24)] [(.ref r24)])
  obtain ⟨_, _, ⟨T25, Lz25, kz25, nz25⟩, -, X25, ⟨Lc25, hQ25, lz25, yz25, zz25⟩, st25⟩ := Jvm.LawKit.callS X24 hx (y := (⟨"com/example/vestwright/vestwright/plan/EventCommencementsPinLaw", "exact", "([Lcom/example/vestwright/vestwright/plan/Event;)Z"⟩ : MethodName)) hown (mvT hZ (hw _ (List.mem_of_getElem? (i := 27) rfl))) (mvT hZ (hw _ (List.mem_of_getElem? (i := 28) rfl))) (mvT hZ (hw _ (List.mem_of_getElem? (i := 29) rfl))) (mvT hZ (hw _ (List.mem_of_getElem? (i := 30) rfl))) (by decide) (backOf (W := 0) (rm2 l Z aw hw [] r24 c0 c2 c3 T24.heap n0 Z24 O24 S_0 S_2 S_3 Aq24) hZ (hw _ (List.mem_of_getElem? (i := 30) rfl)) (hw _ (List.mem_of_getElem? (i := 29) rfl)) (by decide) (by decide)) (g := (mkF m 142 #[.val (.int p0), .val (.int p1), .val (.ref b1), .val (.ref r18), .val (.int (1 : Int32)), .val (.int ((p0 &&& (2147483647 : Int32)) % (3 : Int32))), .val (.ref r24)] [(.ref r24)])) rfl (by rw [hml]; rfl) (argsL := [(.ref r24)]) (rest := []) (lenOf pd_285bLcom2fexample2fvestwright2fvestwright2fplan2fEvent3b29Z rfl) rfl (by show 2 * 0 + _ ≤ _; exact Nat.le_of_eq rfl) (hb hby at_142) (fun _ _ => ⟨rfl, rfl, (by decide : 3 + 0 ≤ _), (by decide : 14 + 0 ≤ _)⟩)
  dsimp only [Pt.U, Pt.locs, Pt.cells, Pt.slots] at X25 lz25 yz25 zz25 st25 hQ25
  subst lz25 yz25 zz25
  obtain ⟨rfl, N25q, e25⟩ := hQ25
  have N25 := Fr.app N24 N25q
  refine go st25 ?_
  show Run _ _ _ _ _ _ _ T25 (mkF m 145 #[.val (.int p0), .val (.int p1), .val (.ref b1), .val (.ref r18), .val (.int (1 : Int32)), .val (.int ((p0 &&& (2147483647 : Int32)) % (3 : Int32))), .val (.ref r24)] [(.int (1 : Int32))])
  refine go (T' := T25) (f' := (mkF m 148 #[.val (.int p0), .val (.int p1), .val (.ref b1), .val (.ref r18), .val (.int (1 : Int32)), .val (.int ((p0 &&& (2147483647 : Int32)) % (3 : Int32))), .val (.ref r24)] [])) (by intro t k; exact XS.ifNo X25.here hx rfl (hb hby at_145) rfl ((if0 _ _).trans (feq (by decide : ¬ ((1 : Int32) = (0 : Int32)))).1) k) ?_
  show Run _ _ _ _ _ _ _ T25 (mkF m 148 #[.val (.int p0), .val (.int p1), .val (.ref b1), .val (.ref r18), .val (.int (1 : Int32)), .val (.int ((p0 &&& (2147483647 : Int32)) % (3 : Int32))), .val (.ref r24)] [])
  refine go (T' := T25) (f' := (mkF m 149 #[.val (.int p0), .val (.int p1), .val (.ref b1), .val (.ref r18), .val (.int (1 : Int32)), .val (.int ((p0 &&& (2147483647 : Int32)) % (3 : Int32))), .val (.ref r24)] [(.int (1 : Int32))])) (by intro t k; exact XS.iconst X25.here hx rfl (hb hby at_148) k) ?_
  show Run _ _ _ _ _ _ _ T25 (mkF m 149 #[.val (.int p0), .val (.int p1), .val (.ref b1), .val (.ref r18), .val (.int (1 : Int32)), .val (.int ((p0 &&& (2147483647 : Int32)) % (3 : Int32))), .val (.ref r24)] [(.int (1 : Int32))])
  refine go (T' := T25) (f' := (mkF m 153 #[.val (.int p0), .val (.int p1), .val (.ref b1), .val (.ref r18), .val (.int (1 : Int32)), .val (.int ((p0 &&& (2147483647 : Int32)) % (3 : Int32))), .val (.ref r24)] [(.int (1 : Int32))])) (by intro t k; exact XS.goto X25.here hx rfl (pc0 := 149) (pc' := 153) rfl (hb hby at_149) (by decide) (by decide) k) ?_
  show Run _ _ _ _ _ _ _ T25 (mkF m 153 #[.val (.int p0), .val (.int p1), .val (.ref b1), .val (.ref r18), .val (.int (1 : Int32)), .val (.int ((p0 &&& (2147483647 : Int32)) % (3 : Int32))), .val (.ref r24)] [(.int (1 : Int32))])
  refine retZ X25 hx (t := .boolean) Bd.returns (by simp) (hb hby at_153) hlk (by decide) (by decide) ?_
  show Q0 Z p0 p1 c0 c1 c2 c3 c4 c5 c6 c7 h0 n0 _ T25.heap _
  rw [e25]
  have hv' : (nar .boolean (1 : Int32)) = (1 : Int32) := by
    rfl
  have hv : (some (.int (nar .boolean (1 : Int32))) : Option Value) = some (.int (1 : Int32)) := congrArg (fun z => (some (.int z) : Option Value)) hv'
  exact ⟨hv, N25⟩
set_option maxRecDepth 65536 in
set_option maxHeartbeats 40000000 in
theorem comes_1 {Post : Tables → Env → Array Value → State → Outcome → State → Prop} (hpost : ∀ tb e args s v u, (limb_1_1.after args s (.returned v) u = true ∧ limb_1_2.after args s (.returned v) u = true ∧ True) → FrameEnd s (.returned v) u (Jvm.fieldLocs frame_1_writes args s ++ Jvm.arrayLocs frame_1_arrays args s ++ Jvm.staticLocs frame_1_statics s) 16 128 → Post tb e args s (.returned v) u) :
    ArmFor flags0 classFile x code maxLocals ret World_1 tables_1 room_1 Calls_1 rest_1 Pre_1 Post := by
  intro l hfl _ _ p e ha hc hk s m args below hf hA hF happ hP
  obtain ⟨hcalls, hrest, hpre⟩ := hP
  obtain ⟨-, -, -, hnamed, -, -, -, hat⟩ := (Spec.applies_iff hf).mp happ
  obtain ⟨hg, hn⟩ := and_e (Cond.before_iff.mp (show (Jvm.Cond.and given_1 narrow_1).before args s = true from hpre))
  obtain ⟨g1, g2⟩ := and_e hg
  obtain ⟨g3, g4⟩ := and_e g2
  obtain ⟨w0, w1, rfl⟩ : ∃ w0 w1 : Value, args = #[w0, w1] := by
    have hs : args.size = 2 := by simpa [Cond.value, given_1] using g1
    obtain ⟨L⟩ := args
    match L, hs with
    | [w0, w1], _ => exact ⟨w0, w1, rfl⟩
  have hw := fun d (hd : d ∈ tables_1) => atoms_spec (ws := Jvm.Cond.code x code maxLocals ret :: tables_1) hat d (List.mem_cons_of_mem _ hd)
  have hfit : Fit s := fun {y c} hc i hi => by
    obtain ⟨ha, rfl⟩ := Array.getElem?_eq_some_iff.mp hc
    have q := List.all_eq_true.mp ((Array.all_eq_true_iff_forall_mem.mp hF) _ (Array.getElem_mem ha)) i (List.mem_range.mpr hi)
    simpa [Array.getElem?_eq_getElem hi] using q
  obtain ⟨i0, ei0⟩ := is_v g3
  obtain rfl : w0 = (.int i0) := Option.some.inj ei0
  obtain ⟨i1, ei1⟩ := is_v g4
  obtain rfl : w1 = (.int i1) := Option.some.inj ei1
  obtain ⟨n0, m0⟩ := and_e hn
  obtain ⟨n1, m1⟩ := and_e m0
  obtain ⟨n2, m2⟩ := and_e m1
  obtain ⟨n3, m3⟩ := and_e m2
  obtain ⟨n4, m4⟩ := and_e m3
  obtain ⟨n5, m5⟩ := and_e m4
  obtain ⟨n6, m6⟩ := and_e m5
  obtain ⟨n7, m7⟩ := and_e m6
  obtain ⟨n8, m8⟩ := and_e m7
  obtain ⟨n9, m9⟩ := and_e m8
  obtain ⟨n10, m10⟩ := and_e m9
  obtain ⟨n11, m11⟩ := and_e m10
  obtain ⟨n12, m12⟩ := and_e m11
  obtain ⟨n13, m13⟩ := and_e m12
  obtain ⟨n14, m14⟩ := and_e m13
  have n15 := m14
  obtain ⟨c0, ev0⟩ := exa_v n0
  have E_0 := Exa.start ev0 n0
  have S_0 := Sta.start ev0 (Or.inr ⟨(hw _ (List.mem_of_getElem? (i := 3) rfl)), (hw _ (List.mem_of_getElem? (i := 4) rfl))⟩)
  obtain ⟨c1, ev1⟩ := exa_v n1
  have E_1 := Exa.start ev1 n1
  have S_1 := Sta.start ev1 (Or.inr ⟨(hw _ (List.mem_of_getElem? (i := 3) rfl)), (hw _ (List.mem_of_getElem? (i := 7) rfl))⟩)
  obtain ⟨c2, ev2⟩ := exa_v n2
  have E_2 := Exa.start ev2 n2
  have S_2 := Sta.start ev2 (Or.inr ⟨(hw _ (List.mem_of_getElem? (i := 3) rfl)), (hw _ (List.mem_of_getElem? (i := 9) rfl))⟩)
  obtain ⟨c3, ev3⟩ := exa_v n3
  have E_3 := Exa.start ev3 n3
  have S_3 := Sta.start ev3 (Or.inr ⟨(hw _ (List.mem_of_getElem? (i := 3) rfl)), (hw _ (List.mem_of_getElem? (i := 11) rfl))⟩)
  obtain ⟨c4, ev4⟩ := exa_v n4
  have E_4 := Exa.start ev4 n4
  have S_4 := Sta.start ev4 (Or.inr ⟨(hw _ (List.mem_of_getElem? (i := 3) rfl)), (hw _ (List.mem_of_getElem? (i := 13) rfl))⟩)
  obtain ⟨c5, ev5⟩ := exa_v n5
  have E_5 := Exa.start ev5 n5
  have S_5 := Sta.start ev5 (Or.inr ⟨(hw _ (List.mem_of_getElem? (i := 3) rfl)), (hw _ (List.mem_of_getElem? (i := 15) rfl))⟩)
  obtain ⟨c6, ev6⟩ := exa_v n6
  have E_6 := Exa.start ev6 n6
  have S_6 := Sta.start ev6 (Or.inr ⟨(hw _ (List.mem_of_getElem? (i := 3) rfl)), (hw _ (List.mem_of_getElem? (i := 17) rfl))⟩)
  obtain ⟨c7, ev7⟩ := exa_v n7
  have E_7 := Exa.start ev7 n7
  have S_7 := Sta.start ev7 (Or.inr ⟨(hw _ (List.mem_of_getElem? (i := 3) rfl)), (hw _ (List.mem_of_getElem? (i := 19) rfl))⟩)
  have F_0 := Fld.start ((fld_at ev0).symm.trans (eqi_v n8))
  have F_2 := Fld.start ((fld_at ev2).symm.trans (eqi_v n9))
  have F_3 := Fld.start ((fld_at ev3).symm.trans (eqi_v n10))
  obtain ⟨n, o, h1, h2, h3, _, L, rfl, ⟨rfl, N⟩, hq⟩ := rm0 l s _ hw tables_1 i0 i1 c0 c1 c2 c3 c4 c5 c6 c7 s.heap s.heap.size (Nat.le_refl _) (Old.start s) S_0 E_0 S_1 E_1 S_2 E_2 S_3 E_3 S_4 E_4 S_5 E_5 S_6 E_6 S_7 E_7 F_0 F_2 F_3 p e ha hc hk s m _ below hf ((Spec.applies_iff_loose hf).mp happ).1 ⟨rfl, State.Warmed39.refl s, rfl⟩ trivial
  refine ⟨n, _, h1, h2, h3, hpost _ _ _ _ _ _ ⟨Cond.after_iff.mpr rfl, Cond.after_iff.mpr (eq_i res_at (Term.int_eval (1)) rfl), trivial⟩ ⟨hq.1, hq.2.1, (hq.2.2.sift fun y hy => Or.inr (N y hy)).mono (by decide) (by decide)⟩⟩
theorem main_1_1 : Claimed_1_1 := comes_1 fun _ _ _ _ _ _ h hF => ⟨h.1, hF⟩
theorem main_1_2 : Claimed_1_2 := comes_1 fun _ _ _ _ _ _ h hF => ⟨h.2.1, hF⟩
end Jvm.Pilot.@@N@@
namespace Jvm.Pilot.@@N@@
open Jvm Jvm.ClassFile Sem Op Lib Jvm.Free Jvm.Stand Jvm.Pilot.@@N@@.Jvm.D
/-! MADE BY PROGRAM (witnessworld.py) out of the Statement's table words and the real class files: 14 classes; the members and pool entries that the words name. The judged class is class 1, her method 2. -/
namespace start1
open Jvm.ClassFile
def u (s : String) : CpInfo := .utf8 (stringToUtf16 s)
/-- a pool by its gaps: so many unusable entries, then the entry; so many at the end -/
def gap : Nat → List CpInfo → List CpInfo
  | 0, r => r
  | n + 1, r => .unusable :: gap n r
def poolList (es : List (Nat × CpInfo)) (last : Nat) : List CpInfo := es.foldr (fun e r => gap e.1 (e.2 :: r)) (gap last [])
def pool (es : List (Nat × CpInfo)) (last : Nat) : Array CpInfo := ⟨poolList es last⟩
def fileOf (pool : Array CpInfo) (this : Nat) (attrs : Array Attribute := #[]) (ms : Array MethodInfo := #[]) (fl : Nat := 33) (sup : Nat := 0) (ifs : Array Nat := #[]) (fds : Array FieldInfo := #[]) : ClassFile where
  minorVersion := 0
  majorVersion := 65
  constantPool := pool
  accessFlags := fl
  thisClass := this
  superClass := sup
  interfaces := ifs
  fields := fds
  methods := ms
  attributes := attrs
def plain (name : String) (sup : Option ClassId) : Class where
  name := name
  kind := .ordinary
  loader := none
  accessFlags := 33
  super := sup
  interfaces := #[]
  cf := none
  fields := #[]
  methods := #[]
  instanceTypes := #[]
  staticTypes := #[]
  resolved := #[]
  callSites := []
  init := .initialized
  statics := none
  mirror := none

def pool0 : Array CpInfo := pool [(5, u "<init>"), (0, u "()V"), (1, .class_ 10), (1, u "java/lang/Object")] 113

def k0m0 : Method := { name := "<init>", desc := "()V", sig := { parameters := [], returnType := none }, accessFlags := 1, code := none }
/-- java/lang/Object -/
def k0 : Class := { plain "java/lang/Object" none with
  accessFlags := 33
  interfaces := #[]
  cf := some (fileOf pool0 8 #[] #[{ accessFlags := 1, nameIndex := 5, descriptorIndex := 6, attributes := #[] }] 33 0 #[] #[])
  fields := #[]
  methods := #[k0m0]
  instanceTypes := #[]
  staticTypes := #[]
  resolved := Array.replicate 124 none
  statics := none }

def pool1 : Array CpInfo := pool [(2, .class_ 4), (1, u "java/lang/Object"), (0, u "<init>"), (0, u "()V"), (0, .fieldref 8 9), (0, .class_ 10), (0, .nameAndType 11 12), (0, u "com/example/vestwright/vestwright/plan/Event"), (0, u "RETIREMENT"), (0, u "Lcom/example/vestwright/vestwright/plan/Event;"), (0, .fieldref 8 14), (0, .nameAndType 15 12), (0, u "DATE_CERTAIN"), (0, .fieldref 8 17), (0, .nameAndType 18 12), (0, u "ON_VESTING"), (0, .fieldref 8 20), (0, .nameAndType 21 12), (0, u "TERMINATION"), (0, .fieldref 8 23), (0, .nameAndType 24 12), (0, u "FUNDED_PLAN_PAYMENT"), (0, .fieldref 8 26), (0, .nameAndType 27 12), (0, u "WITHDRAWAL"), (0, .fieldref 8 29), (0, .nameAndType 30 12), (0, u "DEATH"), (0, .fieldref 8 32), (0, .nameAndType 33 12), (0, u "CHANGE_IN_CONTROL"), (0, .methodref 8 35), (0, .nameAndType 36 37), (0, u "commencements"), (0, u "()[Lcom/example/vestwright/vestwright/plan/Event;"), (0, .methodref 39 40), (0, .class_ 41), (0, .nameAndType 42 43), (0, u "com/example/vestwright/vestwright/plan/EventCommencementsPinLaw"), (0, u "exact"), (0, u "([Lcom/example/vestwright/vestwright/plan/Event;)Z"), (0, .methodref 8 45), (0, .nameAndType 46 47), (0, u "beginsElectedPayouts"), (0, u "()Z"), (0, .integer 2147483647), (3, u "law"), (0, u "(II)Z")] 4

def k1m0 : Method := { name := "<init>", desc := "()V", sig := { parameters := [], returnType := none }, accessFlags := 2, code := none }
def k1c1 : Code := { maxStack := 2, maxLocals := 1, code := method_2_code, exceptionTable := #[], attributes := #[] }
def k1m1 : Method := { name := "exact", desc := "([Lcom/example/vestwright/vestwright/plan/Event;)Z", sig := { parameters := [(.array (.object "com/example/vestwright/vestwright/plan/Event"))], returnType := some .boolean }, accessFlags := 10, code := some k1c1 }
def k1c2 : Code := { maxStack := 5, maxLocals := 7, code := code, exceptionTable := #[], attributes := #[] }
def k1m2 : Method := { name := "law", desc := "(II)Z", sig := { parameters := [.int, .int], returnType := some .boolean }, accessFlags := 9, code := some k1c2 }
/-- com/example/vestwright/vestwright/plan/EventCommencementsPinLaw -/
def k1 : Class := { plain "com/example/vestwright/vestwright/plan/EventCommencementsPinLaw" (some 0) with
  accessFlags := 49
  interfaces := #[]
  cf := some (fileOf pool1 39 #[] #[{ accessFlags := 2, nameIndex := 5, descriptorIndex := 6, attributes := #[] }, { accessFlags := 10, nameIndex := 42, descriptorIndex := 43, attributes := #[] }, { accessFlags := 9, nameIndex := 52, descriptorIndex := 53, attributes := #[] }] 49 2 #[] #[])
  fields := #[]
  methods := #[k1m0, k1m1, k1m2]
  instanceTypes := #[]
  staticTypes := #[]
  resolved := Array.replicate 58 none
  statics := none }

def pool2 : Array CpInfo := pool [(1, .class_ 2), (0, u "java/lang/constant/Constable"), (0, .class_ 4), (0, u "java/lang/Object")] 6

/-- java/lang/constant/Constable -/
def k2 : Class := { plain "java/lang/constant/Constable" (some 0) with
  accessFlags := 1537
  interfaces := #[]
  cf := some (fileOf pool2 1 #[] #[] 1537 3 #[] #[])
  fields := #[]
  methods := #[]
  instanceTypes := #[]
  staticTypes := #[]
  resolved := Array.replicate 11 none
  statics := none }

def pool3 : Array CpInfo := pool [(1, .class_ 2), (0, u "java/lang/Comparable"), (0, .class_ 4), (0, u "java/lang/Object")] 7

/-- java/lang/Comparable -/
def k3 : Class := { plain "java/lang/Comparable" (some 0) with
  accessFlags := 1537
  interfaces := #[]
  cf := some (fileOf pool3 1 #[] #[] 1537 3 #[] #[])
  fields := #[]
  methods := #[]
  instanceTypes := #[]
  staticTypes := #[]
  resolved := Array.replicate 12 none
  statics := none }

def pool4 : Array CpInfo := pool [(1, .class_ 2), (0, u "java/io/Serializable"), (0, .class_ 4), (0, u "java/lang/Object")] 2

/-- java/io/Serializable -/
def k4 : Class := { plain "java/io/Serializable" (some 0) with
  accessFlags := 1537
  interfaces := #[]
  cf := some (fileOf pool4 1 #[] #[] 1537 3 #[] #[])
  fields := #[]
  methods := #[]
  instanceTypes := #[]
  staticTypes := #[]
  resolved := Array.replicate 7 none
  statics := none }

def pool5 : Array CpInfo := pool [(2, .class_ 4), (1, u "java/lang/Enum"), (0, u "name"), (0, u "Ljava/lang/String;"), (2, u "ordinal"), (0, u "I"), (1, .class_ 14), (1, u "java/lang/Object"), (4, u "hash"), (86, .class_ 108), (1, u "java/lang/Enum$EnumDesc"), (2, .class_ 112), (0, u "java/lang/constant/Constable"), (0, .class_ 114), (0, u "java/lang/Comparable"), (0, .class_ 116), (0, u "java/io/Serializable")] 87

/-- java/lang/Enum -/
def k5 : Class := { plain "java/lang/Enum" (some 0) with
  accessFlags := 1057
  interfaces := #[2, 3, 4]
  cf := some (fileOf pool5 2 #[.nestMembers #[106]] #[] 1057 12 #[111, 113, 115] #[{ accessFlags := 18, nameIndex := 5, descriptorIndex := 6, attributes := #[] }, { accessFlags := 18, nameIndex := 9, descriptorIndex := 10, attributes := #[] }, { accessFlags := 2, nameIndex := 19, descriptorIndex := 10, attributes := #[] }])
  fields := #[{ name := "name", type := (.object "java/lang/String"), accessFlags := 18, slot := 0, constantValue := 0 }, { name := "ordinal", type := .int, accessFlags := 18, slot := 1, constantValue := 0 }, { name := "hash", type := .int, accessFlags := 2, slot := 2, constantValue := 0 }]
  methods := #[]
  instanceTypes := #[(.object "java/lang/String"), .int, .int]
  staticTypes := #[]
  resolved := Array.replicate 204 none
  statics := none }

def pool6 : Array CpInfo := pool [(2, .class_ 4), (1, u "com/example/vestwright/vestwright/plan/Labelled"), (64, .class_ 70), (0, u "java/lang/Object")] 44

/-- com/example/vestwright/vestwright/plan/Labelled -/
def k6 : Class := { plain "com/example/vestwright/vestwright/plan/Labelled" (some 0) with
  accessFlags := 1537
  interfaces := #[]
  cf := some (fileOf pool6 2 #[] #[] 1537 69 #[] #[])
  fields := #[]
  methods := #[]
  instanceTypes := #[]
  staticTypes := #[]
  resolved := Array.replicate 115 none
  statics := none }

def pool7 : Array CpInfo := pool [(1, .class_ 2), (0, u "com/example/vestwright/vestwright/plan/Event"), (0, .fieldref 1 4), (0, .nameAndType 5 6), (0, u "RETIREMENT"), (0, u "Lcom/example/vestwright/vestwright/plan/Event;"), (2, u "TERMINATION"), (0, .fieldref 1 11), (0, .nameAndType 12 6), (0, u "DATE_CERTAIN"), (0, .fieldref 1 14), (0, .nameAndType 15 6), (0, u "ON_VESTING"), (2, u "FUNDED_PLAN_PAYMENT"), (2, u "WITHDRAWAL"), (2, u "DEATH"), (2, u "CHANGE_IN_CONTROL"), (2, u "$VALUES"), (0, u "[Lcom/example/vestwright/vestwright/plan/Event;"), (6, .class_ 40), (1, u "java/lang/Enum"), (8, u "label"), (0, u "Ljava/lang/String;"), (0, .fieldref 1 52), (0, .nameAndType 53 54), (0, u "beginsElectedPayouts"), (0, u "Z"), (30, u "()[Lcom/example/vestwright/vestwright/plan/Event;"), (0, .class_ 87), (0, u "com/example/vestwright/vestwright/plan/Labelled"), (8, u "()Z"), (0, u "commencements")] 5

def k7c0 : Code := { maxStack := 1, maxLocals := 1, code := prog_43_method_5_code, exceptionTable := #[], attributes := #[] }
def k7m0 : Method := { name := "beginsElectedPayouts", desc := "()Z", sig := { parameters := [], returnType := some .boolean }, accessFlags := 1, code := some k7c0 }
def k7c1 : Code := { maxStack := 4, maxLocals := 0, code := prog_43_method_6_code, exceptionTable := #[], attributes := #[] }
def k7m1 : Method := { name := "commencements", desc := "()[Lcom/example/vestwright/vestwright/plan/Event;", sig := { parameters := [], returnType := some (.array (.object "com/example/vestwright/vestwright/plan/Event")) }, accessFlags := 9, code := some k7c1 }
/-- com/example/vestwright/vestwright/plan/Event -/
def k7 : Class := { plain "com/example/vestwright/vestwright/plan/Event" (some 5) with
  accessFlags := 16433
  interfaces := #[6]
  cf := some (fileOf pool7 1 #[] #[{ accessFlags := 1, nameIndex := 53, descriptorIndex := 96, attributes := #[] }, { accessFlags := 9, nameIndex := 97, descriptorIndex := 85, attributes := #[] }] 16433 38 #[86] #[{ accessFlags := 16409, nameIndex := 5, descriptorIndex := 6, attributes := #[] }, { accessFlags := 16409, nameIndex := 9, descriptorIndex := 6, attributes := #[] }, { accessFlags := 16409, nameIndex := 12, descriptorIndex := 6, attributes := #[] }, { accessFlags := 16409, nameIndex := 15, descriptorIndex := 6, attributes := #[] }, { accessFlags := 16409, nameIndex := 18, descriptorIndex := 6, attributes := #[] }, { accessFlags := 16409, nameIndex := 21, descriptorIndex := 6, attributes := #[] }, { accessFlags := 16409, nameIndex := 24, descriptorIndex := 6, attributes := #[] }, { accessFlags := 16409, nameIndex := 27, descriptorIndex := 6, attributes := #[] }, { accessFlags := 18, nameIndex := 49, descriptorIndex := 50, attributes := #[] }, { accessFlags := 18, nameIndex := 53, descriptorIndex := 54, attributes := #[] }, { accessFlags := 4122, nameIndex := 30, descriptorIndex := 31, attributes := #[] }])
  fields := #[{ name := "RETIREMENT", type := (.object "com/example/vestwright/vestwright/plan/Event"), accessFlags := 16409, slot := 0, constantValue := 0 }, { name := "TERMINATION", type := (.object "com/example/vestwright/vestwright/plan/Event"), accessFlags := 16409, slot := 1, constantValue := 0 }, { name := "DATE_CERTAIN", type := (.object "com/example/vestwright/vestwright/plan/Event"), accessFlags := 16409, slot := 2, constantValue := 0 }, { name := "ON_VESTING", type := (.object "com/example/vestwright/vestwright/plan/Event"), accessFlags := 16409, slot := 3, constantValue := 0 }, { name := "FUNDED_PLAN_PAYMENT", type := (.object "com/example/vestwright/vestwright/plan/Event"), accessFlags := 16409, slot := 4, constantValue := 0 }, { name := "WITHDRAWAL", type := (.object "com/example/vestwright/vestwright/plan/Event"), accessFlags := 16409, slot := 5, constantValue := 0 }, { name := "DEATH", type := (.object "com/example/vestwright/vestwright/plan/Event"), accessFlags := 16409, slot := 6, constantValue := 0 }, { name := "CHANGE_IN_CONTROL", type := (.object "com/example/vestwright/vestwright/plan/Event"), accessFlags := 16409, slot := 7, constantValue := 0 }, { name := "label", type := (.object "java/lang/String"), accessFlags := 18, slot := 3, constantValue := 0 }, { name := "beginsElectedPayouts", type := .boolean, accessFlags := 18, slot := 4, constantValue := 0 }, { name := "$VALUES", type := (.array (.object "com/example/vestwright/vestwright/plan/Event")), accessFlags := 4122, slot := 8, constantValue := 0 }]
  methods := #[k7m0, k7m1]
  instanceTypes := #[(.object "java/lang/String"), .int, .int, (.object "java/lang/String"), .boolean]
  staticTypes := #[(.object "com/example/vestwright/vestwright/plan/Event"), (.object "com/example/vestwright/vestwright/plan/Event"), (.object "com/example/vestwright/vestwright/plan/Event"), (.object "com/example/vestwright/vestwright/plan/Event"), (.object "com/example/vestwright/vestwright/plan/Event"), (.object "com/example/vestwright/vestwright/plan/Event"), (.object "com/example/vestwright/vestwright/plan/Event"), (.object "com/example/vestwright/vestwright/plan/Event"), (.array (.object "com/example/vestwright/vestwright/plan/Event"))]
  resolved := Array.replicate 103 none
  statics := some 0 }

def pool8 : Array CpInfo := pool [(1, u "java/lang/Cloneable"), (0, .class_ 1), (0, u "java/lang/Object"), (0, .class_ 3)] 3

/-- java/lang/Cloneable -/
def k8 : Class := { plain "java/lang/Cloneable" (some 0) with
  accessFlags := 1537
  interfaces := #[]
  cf := some (fileOf pool8 2 #[] #[] 1537 4 #[] #[])
  fields := #[]
  methods := #[]
  instanceTypes := #[]
  staticTypes := #[]
  resolved := Array.replicate 8 none
  statics := none }

/-- the primitive byte -/
def k9 : Class := { plain "byte" none with kind := .primitive 'B', accessFlags := 0x411 }
/-- [B -/
def k10 : Class := { plain "[B" (some 0) with kind := .array 9 .byte, interfaces := #[8, 4], accessFlags := 1041 }

/-- the primitive int -/
def k11 : Class := { plain "int" none with kind := .primitive 'I', accessFlags := 0x411 }
/-- [I -/
def k12 : Class := { plain "[I" (some 0) with kind := .array 11 .int, interfaces := #[8, 4], accessFlags := 1041 }

/-- [Lcom/example/vestwright/vestwright/plan/Event; -/
def k13 : Class := { plain "[Lcom/example/vestwright/vestwright/plan/Event;" (some 0) with kind := .array 7 (.object "com/example/vestwright/vestwright/plan/Event"), interfaces := #[8, 4], accessFlags := 1041 }

def heap : Heap := #[{ cls := 7, slots := #[.ref 1, .ref 2, .ref 3, .ref 4, .ref 5, .ref 6, .ref 7, .ref 8, .null], vm := .statics 7 },
  { cls := 7, slots := #[.null, .int 0, .int 0, .null, .int 1], vm := .none },
  { cls := 7, slots := #[.null, .int 1, .int 0, .null, .int 1], vm := .none },
  { cls := 7, slots := #[.null, .int 2, .int 0, .null, .int 1], vm := .none },
  { cls := 7, slots := #[.null, .int 3, .int 0, .null, .int 1], vm := .none },
  { cls := 7, slots := #[.null, .int 4, .int 0, .null, .int 1], vm := .none },
  { cls := 7, slots := #[.null, .int 5, .int 0, .null, .int 0], vm := .none },
  { cls := 7, slots := #[.null, .int 6, .int 0, .null, .int 0], vm := .none },
  { cls := 7, slots := #[.null, .int 7, .int 0, .null, .int 0], vm := .none }]
def classes : Array Class := #[k0, k1, k2, k3, k4, k5, k6, k7, k8, k9, k10, k11, k12, k13]
def interned : List (Array UInt16 × Addr) := []
def slotsUsed : Nat := 49
def theMethod : MethodId := ⟨1, 2⟩
def args0 : Array Value := #[.int 1, .int 2]
def aboutOver (below : List Frame) : State where
  vm := { classes := classes, interned := interned.toArray }
  heap := heap
  slotsUsed := slotsUsed
  threads := #[{ frames := .invoking theMethod args0 :: below }]
def below0 : List Frame := [.native { method := ⟨0, 0⟩, args := #[] }]
def about1 : State := aboutOver below0
def p0 : Program := .bare "" "" ""
def e0 : Env := launch0.env 0 0 0
theorem w_frames : about1.frames = Frame.invoking theMethod args0 :: below0 := rfl
set_option maxRecDepth 65536 in
theorem w_args : argsFit about1.vm theMethod args0 = true := by decide +kernel
set_option maxRecDepth 65536 in
theorem w_heap : heapFits about1 = true := by decide +kernel
set_option maxRecDepth 65536 in
theorem w_runnable : about1.curStatus? = some .runnable := by decide +kernel
set_option maxRecDepth 65536 in
theorem w_alone : about1.alone = true := by decide +kernel
set_option maxRecDepth 65536 in
theorem w_named : about1.methodNamed? x = some theMethod := by decide +kernel
set_option maxRecDepth 65536 in
theorem w_hears : about1.hears theMethod below0 = true := by decide +kernel
set_option maxRecDepth 65536 in
theorem w_ripe : about1.ripe theMethod args0 below0 = true := by decide +kernel
theorem w_running : about1.status = .running := rfl
set_option maxRecDepth 65536 in
theorem w_room : about1.hasRoom e0.platform room_1 = true :=
  launch0.hasRoom_least _ room_1 (by decide +kernel) (by decide +kernel) (by decide +kernel) (by decide +kernel) (by decide +kernel) (by decide +kernel)
theorem allAtoms_all (ts : List Jvm.Cond) (a : Array Jvm.Value) (st : Jvm.State) : (allAtoms ts).before a st = ts.all (fun c => c.before a st) := by
  induction ts with
  | nil => rfl
  | cons c t ih =>
    show (Jvm.Cond.and c (allAtoms t)).before a st = _
    rw [Jvm.Cond.before_and, ih, List.all_cons]
def words1 : List Jvm.Cond := Jvm.Cond.code x code maxLocals ret :: tables_1
/-- a 'code' word, met by the world's own term for the bytes: nothing is compared byte by byte -/
theorem code_word {y : MethodName} {bytes : ByteArray} {mx : Nat} {rt : Option FieldType} {a : Array Value} {s : State} {m : MethodId} {meth : Method} {c : Code} (h1 : s.methodNamed? y = some m) (h2 : s.vm.method? m = some meth) (h3 : meth.code = some c) (h4 : c.code = bytes)
    (h5 : (c.maxLocals == mx && c.exceptionTable.isEmpty && decide (c.maxStack ≤ mostOperands) && decide (meth.sig.returnType = rt) && !meth.locks && decide (parseMethodDescriptor y.desc = some meth.sig)) = true) : (Jvm.Cond.code y bytes mx rt).before a s = true := by
  simp only [Bool.and_eq_true, beq_iff_eq, Bool.not_eq_true', decide_eq_true_eq] at h5
  obtain ⟨⟨⟨⟨⟨g1, g2⟩, g3⟩, g4⟩, g5⟩, g6⟩ := h5
  simp [Cond.before, Cond.holds, Cond.value, h1, h2, h3, h4, g1, g2, g3, g4, g5, g6]
def isCode : Jvm.Cond → Bool
  | .code _ _ _ _ => true
  | _ => false
theorem all_split {L : List Jvm.Cond} {P : Jvm.Cond → Bool} (h1 : L.all (fun c => isCode c || P c) = true) (h2 : ∀ c ∈ L.filter isCode, P c = true) : L.all P = true := by
  refine List.all_eq_true.mpr fun c hc => ?_
  have h := List.all_eq_true.mp h1 c hc
  rcases Bool.eq_false_or_eq_true (isCode c) with hi | hi
  · exact h2 c (List.mem_filter.mpr ⟨hc, hi⟩)
  · simpa [hi] using h
set_option maxRecDepth 65536 in
theorem w_c0 : (Jvm.Cond.code x code maxLocals ret).before args0 about1 = true := code_word (m := ⟨1, 2⟩) (meth := k1m2) (c := k1c2) (by decide +kernel) rfl rfl rfl (by decide +kernel)
set_option maxRecDepth 65536 in
theorem w_c1 : (Jvm.Cond.code ({ cls := "com/example/vestwright/vestwright/plan/Event", name := "commencements", desc := "()[Lcom/example/vestwright/vestwright/plan/Event;" } : Jvm.MethodName) prog_43_method_6_code (0 : Nat) (Option.some (Jvm.ClassFile.FieldType.array (Jvm.ClassFile.FieldType.object "com/example/vestwright/vestwright/plan/Event")))).before args0 about1 = true := code_word (m := ⟨7, 1⟩) (meth := k7m1) (c := k7c1) (by decide +kernel) rfl rfl rfl (by decide +kernel)
set_option maxRecDepth 65536 in
theorem w_c2 : (Jvm.Cond.code ({ cls := "com/example/vestwright/vestwright/plan/EventCommencementsPinLaw", name := "exact", desc := "([Lcom/example/vestwright/vestwright/plan/Event;)Z" } : Jvm.MethodName) method_2_code (1 : Nat) (Option.some Jvm.ClassFile.FieldType.boolean)).before args0 about1 = true := code_word (m := ⟨1, 1⟩) (meth := k1m1) (c := k1c1) (by decide +kernel) rfl rfl rfl (by decide +kernel)
set_option maxRecDepth 65536 in
theorem w_c3 : (Jvm.Cond.code ({ cls := "com/example/vestwright/vestwright/plan/Event", name := "beginsElectedPayouts", desc := "()Z" } : Jvm.MethodName) prog_43_method_5_code (1 : Nat) (Option.some Jvm.ClassFile.FieldType.boolean)).before args0 about1 = true := code_word (m := ⟨7, 0⟩) (meth := k7m0) (c := k7c0) (by decide +kernel) rfl rfl rfl (by decide +kernel)
def codes1 : List Jvm.Cond := [Jvm.Cond.code x code maxLocals ret, Jvm.Cond.code ({ cls := "com/example/vestwright/vestwright/plan/Event", name := "commencements", desc := "()[Lcom/example/vestwright/vestwright/plan/Event;" } : Jvm.MethodName) prog_43_method_6_code (0 : Nat) (Option.some (Jvm.ClassFile.FieldType.array (Jvm.ClassFile.FieldType.object "com/example/vestwright/vestwright/plan/Event"))), Jvm.Cond.code ({ cls := "com/example/vestwright/vestwright/plan/EventCommencementsPinLaw", name := "exact", desc := "([Lcom/example/vestwright/vestwright/plan/Event;)Z" } : Jvm.MethodName) method_2_code (1 : Nat) (Option.some Jvm.ClassFile.FieldType.boolean), Jvm.Cond.code ({ cls := "com/example/vestwright/vestwright/plan/Event", name := "beginsElectedPayouts", desc := "()Z" } : Jvm.MethodName) prog_43_method_5_code (1 : Nat) (Option.some Jvm.ClassFile.FieldType.boolean)]
set_option maxRecDepth 65536 in
theorem codes_eq : words1.filter isCode = codes1 := rfl
theorem w_codes : ∀ c ∈ words1.filter isCode, c.before args0 about1 = true := by
  rw [codes_eq]
  intro c hc
  simp only [codes1, List.mem_cons, List.not_mem_nil, or_false] at hc
  rcases hc with rfl | rfl | rfl | rfl
  · exact w_c0
  · exact w_c1
  · exact w_c2
  · exact w_c3
set_option maxRecDepth 65536 in
theorem w_t1 : (words1.take 24).all (fun c => isCode c || c.before args0 about1) = true := by decide +kernel
set_option maxRecDepth 65536 in
theorem w_t2 : (words1.drop 24).all (fun c => isCode c || c.before args0 about1) = true := by decide +kernel
theorem w_tables : (allAtoms (Jvm.Cond.code x code maxLocals ret :: tables_1)).before args0 about1 = true := by
  rw [allAtoms_all]
  show words1.all (fun c => c.before args0 about1) = true
  refine all_split ?_ w_codes
  rw [← List.take_append_drop 24 words1, List.all_append, w_t1, w_t2]
  rfl
set_option maxRecDepth 65536 in
theorem w_case : (Jvm.Cond.and given_1 narrow_1).before args0 about1 = true := by decide +kernel
theorem w_applies : (headSpec (Jvm.Cond.code x code maxLocals ret :: tables_1) room_1).applies x e0.platform about1 = true :=
  (Spec.applies_iff w_frames).mpr ⟨w_running, w_runnable, w_alone, w_named, w_hears, w_ripe, w_room, w_tables⟩
theorem atStart : AtStart classFile x code maxLocals ret World_1 tables_1 room_1 Calls_1 rest_1 Pre_1 launch0 p0 e0 about1 theMethod args0 below0 :=
  ⟨lists_1, trivial, launch0.admits_env _ _ _, launch0.least_env, fairChoices_fair.cas, fairChoices_fair.clock, w_frames, w_args, w_heap, w_applies, trivial, trivial, w_case⟩
end start1
theorem witness_1 : WitnessClaimed_1 := ⟨start1.p0, start1.e0, start1.about1, start1.theMethod, start1.args0, start1.below0, start1.atStart⟩
end Jvm.Pilot.@@N@@
