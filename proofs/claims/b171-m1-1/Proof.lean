import JvmDerived
import JvmDerived.Pilot.@@N@@Statement
import JvmDerived.Pilot.@@N@@Code
set_option linter.unusedVariables false
set_option linter.unusedSimpArgs false
namespace Jvm.Own
open Sem ClassFile Op Lib Jvm.Stand Jvm.Free Jvm.LawKit Jvm.RoadKit
/-- from the frame f over T the run ends in a return that Q speaks of -/
def Run (p : Program) (e : Env) (s : State) (below : List Frame) (Q : Option Value → Heap → List Loc → Prop) (cm sm : Nat) (T : State) (f : JFrame) : Prop :=
  ∃ s₂ o, Steps p.tables e below (T.setTop f) s₂ ∧ s₂.status = .running ∧ Ended s₂ below o ∧ ∃ v L, o = .returned v ∧ Q v s₂.heap L ∧ FrameEnd s o s₂ L cm sm
section Own
variable {p : Program} {l : Launch} {e : Env} {R : Room} {s : State} {m : MethodId} {args : Array Value} {below : List Frame} {meth : Method} {c : Code} {T : State} {locs : List Loc} {cells slots : Nat} {Q : Option Value → Heap → List Loc → Prop} {cm sm : Nat}
theorem go {T' : State} {f f' : JFrame} (st : ∀ target, Steps p.tables e below (T'.setTop f') target → Steps p.tables e below (T.setTop f) target) (k : Run p e s below Q cm sm T' f') : Run p e s below Q cm sm T f := by
  obtain ⟨s₂, o, h, r⟩ := k
  exact ⟨s₂, o, st _ h, r⟩
theorem retZ (X : Stand p l e R s m args below meth c T locs cells slots) (hx : p.tables.exec = Jvm.exec) {pc : Nat} {Ls : Array Slot} {z : Int32} {t : FieldType} {rest : List Value} (hret : meth.sig.returnType = some t) (ht : t = .boolean ∨ t = .byte ∨ t = .char ∨ t = .short)
    (hd : decode c.code pc = .ok (.ireturn, 1)) (hlk : meth.locks = false) (hc : cells ≤ cm) (hs : slots ≤ sm) (hq : Q (some (.int (nar t z))) T.heap locs) : Run p e s below Q cm sm T (mkF m pc Ls (.int z :: rest)) := by
  obtain ⟨fs, hr, hrun, hended, hW, hsame⟩ := X.leave (v := some (.int (nar t z))) (fun h => by rw [hret] at h; cases h) hlk
  exact ⟨_, _, retN X hx hret ht hd hr, hrun, hended, _, _, rfl, hq, ⟨_, rfl⟩, hW, hsame.mono hc hs⟩
theorem retW (X : Stand p l e R s m args below meth c T locs cells slots) (hx : p.tables.exec = Jvm.exec) {pc : Nat} {Ls : Array Slot} {w : Value} {t : FieldType} {i : Instr} {rest : List Value} (hret : meth.sig.returnType = some t) (hn : narrow t w = w)
    (hi : (i = .ireturn ∧ (t = .int ∨ t = .boolean ∨ t = .byte ∨ t = .char ∨ t = .short) ∧ ∃ z, w = .int z) ∨ (i = .lreturn ∧ t = .long ∧ ∃ z, w = .long z) ∨ (i = .dreturn ∧ t = .double ∧ ∃ z, w = .double z) ∨ (i = .freturn ∧ t = .float ∧ ∃ z, w = .float z) ∨ (i = .areturn ∧ t.isReference = true ∧ w.isRef = true))
    (hd : decode c.code pc = .ok (i, 1)) (hlk : meth.locks = false) (hc : cells ≤ cm) (hs : slots ≤ sm) (hq : Q (some w) T.heap locs) : Run p e s below Q cm sm T (mkF m pc Ls (w :: rest)) := by
  obtain ⟨fs, hr, hrun, hended, hW, hsame⟩ := X.leave (v := some w) (fun h => by rw [hret] at h; cases h) hlk
  exact ⟨_, _, retOut X hx hret hn hi hd hr, hrun, hended, _, _, rfl, hq, ⟨_, rfl⟩, hW, hsame.mono hc hs⟩
theorem retV (X : Stand p l e R s m args below meth c T locs cells slots) (hx : p.tables.exec = Jvm.exec) {pc : Nat} {Ls : Array Slot} (hret : meth.sig.returnType = none)
    (hd : decode c.code pc = .ok (.return_, 1)) (hlk : meth.locks = false) (hc : cells ≤ cm) (hs : slots ≤ sm) (hq : Q none T.heap locs) : Run p e s below Q cm sm T (mkF m pc Ls []) := by
  obtain ⟨fs, hr, hrun, hended, hW, hsame⟩ := X.leave (v := none) (fun _ => rfl) hlk
  exact ⟨_, _, X.returnOut hx hret hd hr, hrun, hended, _, _, rfl, hq, ⟨_, rfl⟩, hW, hsame.mono hc hs⟩
end Own
section Heap
variable {Z : State} {h h' h0 : Heap} {a b : Addr} {ty : FieldType} {vs : List Value} {ws ws' : List Addr} {v : Value} {k : ClassId} {z j : Int32}
/-- an array and all that it holds -/
def Ary (Z : State) (h : Heap) (a : Addr) (ty : FieldType) (vs : List Value) : Prop := ∃ c : Cell, Arr Z h a c ty ∧ c.slots.toList = vs ∧ vs.length < 2147483648 ∧ ∀ v ∈ vs, fits ty v = true
theorem Ary.lt (A : Ary Z h a ty vs) : a < h.size := by obtain ⟨c, A, -⟩ := A; exact A.lt
theorem Ary.ext (A : Ary Z h a ty vs) (E : Ext h h') : Ary Z h' a ty vs := by obtain ⟨c, A, r⟩ := A; exact ⟨c, A.ext E, r⟩
theorem Ary.keep (A : Ary Z h a ty vs) (K : Keep h h' ws) (q : a ∉ ws) : Ary Z h' a ty vs := by obtain ⟨c, A, r⟩ := A; exact ⟨c, ⟨K.2.1 a c A.1 q, A.2⟩, r⟩
theorem Ary.set (A : Ary Z h a ty vs) {i : Nat} (W : Wr h h' a i v) (hv : fits ty v = true) : Ary Z h' a ty (vs.set i v) := by
  obtain ⟨c, A, e, l, f⟩ := A
  refine ⟨_, A.same W, by simp [Cell.setSlot, e], by simpa using l, fun w hw => ?_⟩
  rcases List.mem_or_eq_of_mem_set hw with q | rfl
  · exact f w q
  · exact hv
theorem Ary.ld (A : Ary Z h a ty vs) (hj : ¬ j < 0) (hv : vs[j.toNatClampNeg]? = some v) : ∃ c : Cell, Arr Z h a c ty ∧ ¬ (j < 0 ∨ c.slots.size ≤ j.toNatClampNeg) ∧ c.slots[j.toNatClampNeg]? = some v := by
  obtain ⟨c, A, e, l, f⟩ := A
  have q : c.slots[j.toNatClampNeg]? = some v := by rw [← Array.getElem?_toList, e]; exact hv
  exact ⟨c, A, fun r => r.elim hj fun y => absurd (Array.getElem?_eq_some_iff.mp q).1 (Nat.not_lt.mpr y), q⟩
theorem Ary.st (A : Ary Z h a ty vs) (hj : ¬ j < 0) (hl : j.toNatClampNeg < vs.length) : ∃ c : Cell, Arr Z h a c ty ∧ ¬ (j < 0 ∨ c.slots.size ≤ j.toNatClampNeg) := by
  obtain ⟨c, A, e, l, f⟩ := A
  refine ⟨c, A, fun r => r.elim hj fun y => ?_⟩
  rw [← e, Array.length_toList] at hl
  omega
theorem Ary.len (A : Ary Z h a ty vs) : ∃ c : Cell, Arr Z h a c ty ∧ c.slots.size.toInt32 = vs.length.toInt32 := by
  obtain ⟨c, A, e, l, f⟩ := A
  exact ⟨c, A, by rw [← e, Array.length_toList]⟩
theorem Ary.new (A : Arr Z h a (newA k ty z) ty) : Ary Z h a ty (List.replicate z.toNatClampNeg (defaultValue ty)) := by
  refine ⟨_, A, by simp [newA], ?_, fun v hv => ?_⟩
  · rw [List.length_replicate]
    have := Int32.toInt_lt z
    simp only [Int32.toNatClampNeg]
    omega
  · rw [List.eq_of_mem_replicate hv]
    cases ty <;> rfl
theorem Ary.fit (A : Ary Z h a ty vs) : ∃ c : Cell, Arr Z h a c ty ∧ FitC Z c ∧ c.slots.toList = vs ∧ c.slots.size = vs.length ∧ ∀ (h' : Heap) (b : Addr), Arr Z h' b (cloneOf c) ty → Ary Z h' b ty vs := by
  obtain ⟨c, A, e, l, f⟩ := A
  refine ⟨c, A, fitC_of A fun i hi v hv => ?_, e, by rw [← e, Array.length_toList], fun _ _ B => ⟨_, B, e, l, f⟩⟩
  refine f v ?_
  rw [← e]
  exact List.mem_of_getElem? (by rw [Array.getElem?_toList]; exact hv)
theorem ldI {p : Program} {l : Launch} {e : Env} {R : Room} {s : State} {m : MethodId} {args : Array Value} {below : List Frame} {meth : Method} {c : Code} {T : State} {locs : List Loc} {cells slots : Nat} (X : Stand p l e R s m args below meth c T locs cells slots) (hx : p.tables.exec = Jvm.exec) (hZ : Z.Warmed39 s.vm) (eT : T.heap = h) (A : Ary Z h a .int vs) (hj : ¬ j < 0) (hv : vs[j.toNatClampNeg]? = some v) {g : JFrame} (hg : g.method = m) {rest : List Value} (hs : g.stack = .int j :: .ref a :: rest) (hd : decode c.code g.pc = .ok (.iaload, 1)) (target : State)
    (hr : Steps p.tables e below (T.setTop { g with pc := g.pc + 1, stack := v :: rest }) target) : Steps p.tables e below (T.setTop g) target := by
  obtain ⟨cl, Ar, hin, hat⟩ := A.ld hj hv
  exact X.iaload hx (by rw [eT]; exact Ar.1) (State.isArrayOf_alike hZ.alike Ar.2.1) Ar.2.2 hin hat hg hs hd target hr
theorem ldJ {p : Program} {l : Launch} {e : Env} {R : Room} {s : State} {m : MethodId} {args : Array Value} {below : List Frame} {meth : Method} {c : Code} {T : State} {locs : List Loc} {cells slots : Nat} (X : Stand p l e R s m args below meth c T locs cells slots) (hx : p.tables.exec = Jvm.exec) (hZ : Z.Warmed39 s.vm) (eT : T.heap = h) (A : Ary Z h a .long vs) (hj : ¬ j < 0) (hv : vs[j.toNatClampNeg]? = some v) {g : JFrame} (hg : g.method = m) {rest : List Value} (hs : g.stack = .int j :: .ref a :: rest) (hd : decode c.code g.pc = .ok (.laload, 1)) (target : State)
    (hr : Steps p.tables e below (T.setTop { g with pc := g.pc + 1, stack := v :: rest }) target) : Steps p.tables e below (T.setTop g) target := by
  obtain ⟨cl, Ar, hin, hat⟩ := A.ld hj hv
  exact X.laload hx (by rw [eT]; exact Ar.1) (State.isArrayOf_alike hZ.alike Ar.2.1) Ar.2.2 hin hat hg hs hd target hr
theorem ldC {p : Program} {l : Launch} {e : Env} {R : Room} {s : State} {m : MethodId} {args : Array Value} {below : List Frame} {meth : Method} {c : Code} {T : State} {locs : List Loc} {cells slots : Nat} (X : Stand p l e R s m args below meth c T locs cells slots) (hx : p.tables.exec = Jvm.exec) (hZ : Z.Warmed39 s.vm) (eT : T.heap = h) (A : Ary Z h a .char vs) (hj : ¬ j < 0) (hv : vs[j.toNatClampNeg]? = some v) {g : JFrame} (hg : g.method = m) {rest : List Value} (hs : g.stack = .int j :: .ref a :: rest) (hd : decode c.code g.pc = .ok (.caload, 1)) (target : State)
    (hr : Steps p.tables e below (T.setTop { g with pc := g.pc + 1, stack := v :: rest }) target) : Steps p.tables e below (T.setTop g) target := by
  obtain ⟨cl, Ar, hin, hat⟩ := A.ld hj hv
  exact X.caload hx (by rw [eT]; exact Ar.1) (State.isArrayOf_alike hZ.alike Ar.2.1) Ar.2.2 hin hat hg hs hd target hr
theorem ldB {p : Program} {l : Launch} {e : Env} {R : Room} {s : State} {m : MethodId} {args : Array Value} {below : List Frame} {meth : Method} {c : Code} {T : State} {locs : List Loc} {cells slots : Nat} (X : Stand p l e R s m args below meth c T locs cells slots) (hx : p.tables.exec = Jvm.exec) (hZ : Z.Warmed39 s.vm) (eT : T.heap = h) (A : Ary Z h a .byte vs) (hj : ¬ j < 0) (hv : vs[j.toNatClampNeg]? = some v) {g : JFrame} (hg : g.method = m) {rest : List Value} (hs : g.stack = .int j :: .ref a :: rest) (hd : decode c.code g.pc = .ok (.baload, 1)) (target : State)
    (hr : Steps p.tables e below (T.setTop { g with pc := g.pc + 1, stack := v :: rest }) target) : Steps p.tables e below (T.setTop g) target := by
  obtain ⟨cl, Ar, hin, hat⟩ := A.ld hj hv
  exact X.baloadBytes hx (by rw [eT]; exact Ar.1) (State.isArrayOf_alike hZ.alike Ar.2.1) Ar.2.2 hin hat hg hs hd target hr
theorem ldZ {p : Program} {l : Launch} {e : Env} {R : Room} {s : State} {m : MethodId} {args : Array Value} {below : List Frame} {meth : Method} {c : Code} {T : State} {locs : List Loc} {cells slots : Nat} (X : Stand p l e R s m args below meth c T locs cells slots) (hx : p.tables.exec = Jvm.exec) (hZ : Z.Warmed39 s.vm) (eT : T.heap = h) (A : Ary Z h a .boolean vs) (hj : ¬ j < 0) (hv : vs[j.toNatClampNeg]? = some v) {g : JFrame} (hg : g.method = m) {rest : List Value} (hs : g.stack = .int j :: .ref a :: rest) (hd : decode c.code g.pc = .ok (.baload, 1)) (target : State)
    (hr : Steps p.tables e below (T.setTop { g with pc := g.pc + 1, stack := v :: rest }) target) : Steps p.tables e below (T.setTop g) target := by
  obtain ⟨cl, Ar, hin, hat⟩ := A.ld hj hv
  exact X.baloadBooleans hx (by rw [eT]; exact Ar.1) (State.isArrayOf_alike hZ.alike Ar.2.1) Ar.2.2 hin hat hg hs hd target hr
theorem ldR {p : Program} {l : Launch} {e : Env} {R : Room} {s : State} {m : MethodId} {args : Array Value} {below : List Frame} {meth : Method} {c : Code} {T : State} {locs : List Loc} {cells slots : Nat} (X : Stand p l e R s m args below meth c T locs cells slots) (hx : p.tables.exec = Jvm.exec) (hZ : Z.Warmed39 s.vm) (eT : T.heap = h) (A : Ary Z h a ty vs) (ht : ty.isReference = true) (hj : ¬ j < 0) (hv : vs[j.toNatClampNeg]? = some v) {g : JFrame} (hg : g.method = m) {rest : List Value} (hs : g.stack = .int j :: .ref a :: rest) (hd : decode c.code g.pc = .ok (.aaload, 1)) (target : State)
    (hr : Steps p.tables e below (T.setTop { g with pc := g.pc + 1, stack := v :: rest }) target) : Steps p.tables e below (T.setTop g) target := by
  obtain ⟨cl, Ar, hin, hat⟩ := A.ld hj hv
  exact X.aaload hx (by rw [eT]; exact Ar.1) (State.isArrayOf_alike hZ.alike Ar.2.1) ht Ar.2.2 hin hat hg hs hd target hr
theorem alen {p : Program} {l : Launch} {e : Env} {R : Room} {s : State} {m : MethodId} {args : Array Value} {below : List Frame} {meth : Method} {c : Code} {T : State} {locs : List Loc} {cells slots : Nat} (X : Stand p l e R s m args below meth c T locs cells slots) (hx : p.tables.exec = Jvm.exec) (hZ : Z.Warmed39 s.vm) (eT : T.heap = h) (A : Ary Z h a ty vs) (hn : vs.length.toInt32 = z) {g : JFrame} (hg : g.method = m) {rest : List Value} (hs : g.stack = .ref a :: rest) (hd : decode c.code g.pc = .ok (.arraylength, 1)) (target : State)
    (hr : Steps p.tables e below (T.setTop { g with pc := g.pc + 1, stack := .int z :: rest }) target) : Steps p.tables e below (T.setTop g) target := by
  obtain ⟨cl, Ar, ln⟩ := A.len
  exact X.arraylength hx (by rw [eT]; exact Ar.1) (State.isArrayOf_alike hZ.alike Ar.2.1) hg hs hd target (by rw [ln.trans hn]; exact hr)
theorem getI {xs : List Int32} {i : Nat} (q : i < xs.length) : (xs.map Value.int)[i]? = some (.int (xs.getD i 0)) := by
  simp [List.getElem?_map, List.getD_eq_getElem?_getD, List.getElem?_eq_getElem q]
theorem setI {xs : List Int32} {i : Nat} {x : Int32} : (xs.map Value.int).set i (.int x) = (xs.set i x).map Value.int := List.map_set.symm
/-- an array made over the class C -/
def OvA (Z : State) (h : Heap) (a : Addr) (C : String) : Prop := ∃ c : Cell, h[a]? = some c ∧ Ovr Z c.cls C
theorem OvA.keep {C : String} (O : OvA Z h a C) (K : Keep h h' ws) : OvA Z h' a C := by
  obtain ⟨c, e, o⟩ := O
  obtain ⟨c', q, r1, -, -⟩ := K.2.2 a c e
  exact ⟨c', q, r1 ▸ o⟩
theorem stA {C : String} {y : Addr} (O : OvA Z h a C) (A : Ary Z h a ty vs) (I : Ins Z h y C true) : Sto Z h a (.ref y) := by
  obtain ⟨c, A, -⟩ := A
  obtain ⟨c', e, o⟩ := O
  cases A.1.symm.trans e
  exact Sto.of A o I
theorem eqi_v {args : Array Value} {first s : State} {o : Option Outcome} {idx : List Nat} {t : Term} {k : Int32} (q : (Cond.eq t (.int k)).value args first o s idx = some true) : t.eval args first o idx s = some (.int k) := by
  simp only [Cond.value, Term.eval] at q
  cases ht : t.eval args first o idx s with
  | none => simp [ht] at q
  | some x => cases x <;> simp [ht] at q ⊢; exact q
theorem ary_start {args : Array Value} {s : State} {t : Term} {ty : FieldType} {a : Addr} {n : Int32} {vs : List Value} (hf : Fit s) (ev : t.eval args s none [] s = some (.ref a)) (ha : (Cond.arrayOf t ty).value args s none s [] = some true) (hl : (Cond.eq (.length t) (.int n)).value args s none s [] = some true) (hn : n = vs.length.toInt32) (hs : vs.length < 2147483648)
    (he : ∀ i, i < vs.length → (Term.elem t (.int i.toInt32)).eval args s none [] s = vs[i]?) : Ary s s.heap a ty vs := by
  obtain ⟨cl, A⟩ := Arr.start ev ha
  have hA := A.fin (Vm.Alike.refl _)
  have e1 := eqi_v hl
  have hsz : cl.slots.size < 2147483648 := by
    refine Nat.lt_of_not_le fun q => ?_
    have : ¬ cl.slots.size < 2 ^ 31 := by omega
    simp [Term.eval, ev, hA, this] at e1
  have e2 := len_f (idx := []) ev hA (by omega)
  rw [e1] at e2
  have e3 : n = cl.slots.size.toInt32 := by simpa using e2
  have e4 : cl.slots.size = vs.length := by
    have q := hn.symm.trans e3
    have q1 : vs.length.toInt32.toInt = vs.length := len_toInt (by omega)
    have q2 : cl.slots.size.toInt32.toInt = cl.slots.size := len_toInt (by omega)
    rw [q, q2] at q1
    omega
  have e5 : ∀ i, i < vs.length → cl.slots[i]? = vs[i]? := fun i hi => by
    have q := he i hi
    rw [List.getElem?_eq_getElem hi] at q
    have r := (elem_in q ev (Term.int_eval _) A.1).2
    have e : i.toInt32.toNatClampNeg = i := by simp only [Int32.toNatClampNeg, len_toInt (show i < 2 ^ 31 by omega)]; rfl
    rw [e] at r
    rw [r, List.getElem?_eq_getElem hi]
  refine ⟨cl, A, ?_, hs, fun v hv => ?_⟩
  · refine List.ext_getElem? fun i => ?_
    rw [Array.getElem?_toList]
    by_cases hi : i < vs.length
    · exact e5 i hi
    · rw [Array.getElem?_eq_none (by omega), List.getElem?_eq_none (by omega)]
  · obtain ⟨i, hi, rfl⟩ := List.getElem_of_mem hv
    have r := e5 i hi
    rw [List.getElem?_eq_getElem hi] at r
    have e : i.toInt32.toNatClampNeg = i := by simp only [Int32.toNatClampNeg, len_toInt (show i < 2 ^ 31 by omega)]; rfl
    exact elem_fits (j := i.toInt32) hf A (idx_in (by omega) (by omega)) (by rw [e]; exact r)
theorem nin1 {x y : Addr} (q : x ≠ y) : x ∉ [y] := ninS q nin0
end Heap
end Jvm.Own
namespace Jvm.Pilot.@@N@@
open Jvm Jvm.ClassFile Sem Op Lib Jvm.Free Jvm.Stand Jvm.LawKit Jvm.RoadKit Jvm.Own Bundle Jvm.Pilot.@@N@@.Jvm.D
theorem d1_0 : decode prog_3_method_2_code 0 = .ok (.aload_n 0, 1) := by decide +kernel
theorem d1_1 : decode prog_3_method_2_code 1 = .ok (.invokespecial 1, 3) := by decide +kernel
theorem d1_4 : decode prog_3_method_2_code 4 = .ok (.aload_n 0, 1) := by decide +kernel
theorem d1_5 : decode prog_3_method_2_code 5 = .ok (.aload_n 1, 1) := by decide +kernel
theorem d1_6 : decode prog_3_method_2_code 6 = .ok (.putfield 13, 3) := by decide +kernel
theorem d1_9 : decode prog_3_method_2_code 9 = .ok (.return_, 1) := by decide +kernel
theorem pn_1 : plainName "com/example/barnacle/barnacle/BitArray" = true := by first | (simp [plainName, overriddenIn]; done) | decide +kernel
theorem ef_1 (m : MethodId) (x0 : Addr) (x1 : Addr) : entryFrame m #[(.ref x0), (.ref x1)] 2 = mkF m 0 #[.val (.ref x0), .val (.ref x1)] [] := by first | (simp [entryFrame, mkF, argsToLocals, Value.category]; done) | rfl
def Q1 (Z : State) (a0 : Addr) (a1 : Addr) (h0 : Heap) (n0 : Nat) (v : Option Value) (h : Heap) (L : List Loc) : Prop := v = none ∧ Fr n0 L ∧ Keep h0 h [a0] ∧ Fld Z h a0 "com/example/barnacle/barnacle/BitArray" "words" "[J" (.ref a1)
set_option maxRecDepth 65536 in
set_option maxHeartbeats 40000000 in
theorem rm1 (l : Launch) (Z : State) (aw : Array Value) (hw : ∀ d ∈ tables_1, d.before aw Z = true) (ws : List Jvm.Cond) (a0 : Addr) (a1 : Addr) (h0 : Heap) (n0 : Nat) (Z0 : n0 ≤ h0.size) (E_a0 : Exa Z h0 a0 "com/example/barnacle/barnacle/BitArray") (F_a0 : Fld Z h0 a0 "com/example/barnacle/barnacle/BitArray" "words" "[J" .null) (g_a0 : n0 ≤ a0) :
    MetFree l (⟨"com/example/barnacle/barnacle/BitArray", "<init>", "([J)V"⟩ : MethodName) (head1 (Jvm.Cond.code (⟨"com/example/barnacle/barnacle/BitArray", "<init>", "([J)V"⟩ : MethodName) prog_3_method_2_code 2 none :: ws) ({ frames := 1, cells := 0, slots := 0, locals := 12 } : Room)) (fun a U => a = #[(.ref a0), (.ref a1)] ∧ Z.Warmed39 U.vm ∧ U.heap = h0) (fun _ _ _ _ _ => True) (fun _ U o U' => ∃ v L, o = .returned v ∧ Q1 Z a0 a1 h0 n0 v U'.heap L ∧ FrameEnd U o U' L ({ frames := 1, cells := 0, slots := 0, locals := 12 } : Room).cells ({ frames := 1, cells := 0, slots := 0, locals := 12 } : Room).slots) := by
  refine MetFree.of_bodySF (plainFor_of_name pn_1) hisR ?_
  intro p e s m args below meth c s₁ Bd hml0 hP hK
  obtain ⟨rfl, hZ, hh⟩ := hP
  have hx := Bd.exec
  have hby := Bd.bytes
  have hml : c.maxLocals = 2 := hml0
  have hown : s.vm.findClass "com/example/barnacle/barnacle/BitArray" = some m.cls := findClass_of_methodNamed Bd.named
  have hnm := (name_of_methodNamed Bd.named Bd.method).1
  have hlk : meth.locks = false := BodyLoose.notSynchronized Bd
  have X0 : Stand p l e ({ frames := 1, cells := 0, slots := 0, locals := 12 } : Room) s m #[(.ref a0), (.ref a1)] below meth c s₁ [] 0 0 := Stand.of_body Bd
  have e0 : s₁.heap = h0 := by rw [← hh, Bd.state]; rfl
  have N0 := Fr.nil n0
  show Run p e s below (Q1 Z a0 a1 h0 n0) ({ frames := 1, cells := 0, slots := 0, locals := 12 } : Room).cells ({ frames := 1, cells := 0, slots := 0, locals := 12 } : Room).slots s₁ (entryFrame m #[(.ref a0), (.ref a1)] 2)
  rw [ef_1]
  show Run _ _ _ _ _ _ _ s₁ (mkF m 0 #[.val (.ref a0), .val (.ref a1)] [])
  refine go (T' := s₁) (f' := (mkF m 1 #[.val (.ref a0), .val (.ref a1)] [(.ref a0)])) (by intro t k; exact XS.aloadN X0.here hx rfl (hb hby d1_0) rfl rfl k) ?_
  show Run _ _ _ _ _ _ _ s₁ (mkF m 1 #[.val (.ref a0), .val (.ref a1)] [(.ref a0)])
  obtain ⟨T1, X1, e1, st1⟩ := initO X0 hx hZ hown (hw _ (List.mem_of_getElem? (i := 7) rfl)) (hw _ (List.mem_of_getElem? (i := 8) rfl)) (hw _ (List.mem_of_getElem? (i := 9) rfl)) e0 (g := (mkF m 1 #[.val (.ref a0), .val (.ref a1)] [(.ref a0)])) rfl (by rw [hml]; rfl) rfl (hb hby d1_1) (by decide) (W := 0) (by show 2 * 0 + _ ≤ _; exact Nat.le_of_eq rfl) (by decide)
  refine go st1 ?_
  show Run _ _ _ _ _ _ _ T1 (mkF m 4 #[.val (.ref a0), .val (.ref a1)] [])
  refine go (T' := T1) (f' := (mkF m 5 #[.val (.ref a0), .val (.ref a1)] [(.ref a0)])) (by intro t k; exact XS.aloadN X1.here hx rfl (hb hby d1_4) rfl rfl k) ?_
  show Run _ _ _ _ _ _ _ T1 (mkF m 5 #[.val (.ref a0), .val (.ref a1)] [(.ref a0)])
  refine go (T' := T1) (f' := (mkF m 6 #[.val (.ref a0), .val (.ref a1)] [(.ref a1), (.ref a0)])) (by intro t k; exact XS.aloadN X1.here hx rfl (hb hby d1_5) rfl rfl k) ?_
  show Run _ _ _ _ _ _ _ T1 (mkF m 6 #[.val (.ref a0), .val (.ref a1)] [(.ref a1), (.ref a0)])
  obtain ⟨T2, h2, X2, e2, W2, st2⟩ := putF X1 hx hZ hown (host := "") (Or.inl (hw _ (List.mem_of_getElem? (i := 10) rfl))) Via.refl e1 F_a0 E_a0 (Or.inr ⟨(hw _ (List.mem_of_getElem? (i := 11) rfl)), rfl, hnm⟩) (hw _ (List.mem_of_getElem? (i := 2) rfl)) (ty := (.array .long)) (by decide) rfl rfl (g := (mkF m 6 #[.val (.ref a0), .val (.ref a1)] [(.ref a1), (.ref a0)])) rfl rfl (hb hby d1_6)
  have K2 : Keep h0 h2 [a0] := Keep.of_wr W2
  have F2_a0_words : Fld Z h2 a0 "com/example/barnacle/barnacle/BitArray" "words" "[J" (.ref a1) := F_a0.same W2
  have N2 := Fr.snoc X2 N0 g_a0
  have E2_a0 : Exa Z h2 a0 "com/example/barnacle/barnacle/BitArray" := E_a0.keep K2
  have Z2 : n0 ≤ h2.size := Nat.le_trans Z0 K2.1
  have KK2 : Keep h0 h2 [a0] := (Keep.refl _ _).trans K2 (allS (Or.inl (List.mem_of_getElem? (i := 0) rfl)) all0)
  refine go st2 ?_
  show Run _ _ _ _ _ _ _ T2 (mkF m 9 #[.val (.ref a0), .val (.ref a1)] [])
  refine retV X2 hx Bd.returns (hb hby d1_9) hlk (by decide) (by decide) ?_
  show Q1 Z a0 a1 h0 n0 _ T2.heap _
  rw [e2]
  exact ⟨rfl, N2, KK2, F2_a0_words⟩
theorem d3_0 : decode prog_3_method_16_code 0 = .ok (.iconst 0, 1) := by decide +kernel
theorem d3_1 : decode prog_3_method_16_code 1 = .ok (.istore_n 2, 1) := by decide +kernel
theorem d3_2 : decode prog_3_method_16_code 2 = .ok (.iload_n 2, 1) := by decide +kernel
theorem d3_3 : decode prog_3_method_16_code 3 = .ok (.aload_n 0, 1) := by decide +kernel
theorem d3_4 : decode prog_3_method_16_code 4 = .ok (.getfield 13, 3) := by decide +kernel
theorem d3_7 : decode prog_3_method_16_code 7 = .ok (.arraylength, 1) := by decide +kernel
theorem d3_8 : decode prog_3_method_16_code 8 = .ok (.if_icmp .ge 24, 3) := by decide +kernel
theorem d3_11 : decode prog_3_method_16_code 11 = .ok (.aload_n 0, 1) := by decide +kernel
theorem d3_12 : decode prog_3_method_16_code 12 = .ok (.getfield 13, 3) := by decide +kernel
theorem d3_15 : decode prog_3_method_16_code 15 = .ok (.iload_n 2, 1) := by decide +kernel
theorem d3_16 : decode prog_3_method_16_code 16 = .ok (.dup2, 1) := by decide +kernel
theorem d3_17 : decode prog_3_method_16_code 17 = .ok (.laload, 1) := by decide +kernel
theorem d3_18 : decode prog_3_method_16_code 18 = .ok (.aload_n 1, 1) := by decide +kernel
theorem d3_19 : decode prog_3_method_16_code 19 = .ok (.getfield 13, 3) := by decide +kernel
theorem d3_22 : decode prog_3_method_16_code 22 = .ok (.iload_n 2, 1) := by decide +kernel
theorem d3_23 : decode prog_3_method_16_code 23 = .ok (.laload, 1) := by decide +kernel
theorem d3_24 : decode prog_3_method_16_code 24 = .ok (.lor, 1) := by decide +kernel
theorem d3_25 : decode prog_3_method_16_code 25 = .ok (.lastore, 1) := by decide +kernel
theorem d3_26 : decode prog_3_method_16_code 26 = .ok (.iinc 2 1, 3) := by decide +kernel
theorem d3_29 : decode prog_3_method_16_code 29 = .ok (.goto (-27), 3) := by decide +kernel
theorem d3_32 : decode prog_3_method_16_code 32 = .ok (.return_, 1) := by decide +kernel
theorem ef_3 (m : MethodId) (x0 : Addr) (x1 : Addr) : entryFrame m #[(.ref x0), (.ref x1)] 3 = mkF m 0 #[.val (.ref x0), .val (.ref x1), .unset] [] := by first | (simp [entryFrame, mkF, argsToLocals, Value.category]; done) | rfl
def Q3 (Z : State) (a0 : Addr) (a1 : Addr) (b d : Addr) (x0 x1 y0 y1 : Int64) (h0 : Heap) (n0 : Nat) (v : Option Value) (h : Heap) (L : List Loc) : Prop := v = none ∧ Fr n0 L ∧ Keep h0 h [b] ∧ Ary Z h b .long [(.long (x0 ||| y0)), (.long (x1 ||| y1))]
set_option maxRecDepth 65536 in
set_option maxHeartbeats 40000000 in
theorem rm3 (l : Launch) (Z : State) (aw : Array Value) (hw : ∀ d ∈ tables_1, d.before aw Z = true) (ws : List Jvm.Cond) (a0 : Addr) (a1 : Addr) (b d : Addr) (x0 x1 y0 y1 : Int64) (h0 : Heap) (n0 : Nat) (Z0 : n0 ≤ h0.size) (F_a0 : Fld Z h0 a0 "com/example/barnacle/barnacle/BitArray" "words" "[J" (.ref b)) (F_a1 : Fld Z h0 a1 "com/example/barnacle/barnacle/BitArray" "words" "[J" (.ref d)) (A_b : Ary Z h0 b .long [(.long x0), (.long x1)]) (A_d : Ary Z h0 d .long [(.long y0), (.long y1)]) (g_b : n0 ≤ b) (n_bd : b ≠ d) (n_0b : a0 ≠ b) (n_1b : a1 ≠ b) :
    MetFree l site_108 (head1 (Jvm.Cond.code site_108 prog_3_method_16_code 3 none :: ws) ({ frames := 0, cells := 0, slots := 0, locals := 0 } : Room)) (fun a U => a = #[(.ref a0), (.ref a1)] ∧ Z.Warmed39 U.vm ∧ U.heap = h0) (fun _ _ _ _ _ => True) (fun _ U o U' => ∃ v L, o = .returned v ∧ Q3 Z a0 a1 b d x0 x1 y0 y1 h0 n0 v U'.heap L ∧ FrameEnd U o U' L ({ frames := 0, cells := 0, slots := 0, locals := 0 } : Room).cells ({ frames := 0, cells := 0, slots := 0, locals := 0 } : Room).slots) := by
  refine MetFree.of_bodySF (plainFor_of_name pn_1) hisR ?_
  intro p e s m args below meth c s₁ Bd hml0 hP hK
  obtain ⟨rfl, hZ, hh⟩ := hP
  have hx := Bd.exec
  have hby := Bd.bytes
  have hml : c.maxLocals = 3 := hml0
  have hown : s.vm.findClass "com/example/barnacle/barnacle/BitArray" = some m.cls := findClass_of_methodNamed Bd.named
  have hnm := (name_of_methodNamed Bd.named Bd.method).1
  have hlk : meth.locks = false := BodyLoose.notSynchronized Bd
  have X0 : Stand p l e ({ frames := 0, cells := 0, slots := 0, locals := 0 } : Room) s m #[(.ref a0), (.ref a1)] below meth c s₁ [] 0 0 := Stand.of_body Bd
  have e0 : s₁.heap = h0 := by rw [← hh, Bd.state]; rfl
  have N0 := Fr.nil n0
  show Run p e s below (Q3 Z a0 a1 b d x0 x1 y0 y1 h0 n0) ({ frames := 0, cells := 0, slots := 0, locals := 0 } : Room).cells ({ frames := 0, cells := 0, slots := 0, locals := 0 } : Room).slots s₁ (entryFrame m #[(.ref a0), (.ref a1)] 3)
  rw [ef_3]
  show Run _ _ _ _ _ _ _ s₁ (mkF m 0 #[.val (.ref a0), .val (.ref a1), .unset] [])
  refine go (T' := s₁) (f' := (mkF m 1 #[.val (.ref a0), .val (.ref a1), .unset] [(.int (0 : Int32))])) (by intro t k; exact XS.iconst X0.here hx rfl (hb hby d3_0) k) ?_
  show Run _ _ _ _ _ _ _ s₁ (mkF m 1 #[.val (.ref a0), .val (.ref a1), .unset] [(.int (0 : Int32))])
  refine go (T' := s₁) (f' := (mkF m 2 #[.val (.ref a0), .val (.ref a1), .val (.int (0 : Int32))] [])) (by intro t k; exact XS.istoreN X0.here hx rfl (hb hby d3_1) rfl (l' := #[.val (.ref a0), .val (.ref a1), .val (.int (0 : Int32))]) rfl k) ?_
  show Run _ _ _ _ _ _ _ s₁ (mkF m 2 #[.val (.ref a0), .val (.ref a1), .val (.int (0 : Int32))] [])
  refine go (T' := s₁) (f' := (mkF m 3 #[.val (.ref a0), .val (.ref a1), .val (.int (0 : Int32))] [(.int (0 : Int32))])) (by intro t k; exact XS.iloadN X0.here hx rfl (hb hby d3_2) rfl k) ?_
  show Run _ _ _ _ _ _ _ s₁ (mkF m 3 #[.val (.ref a0), .val (.ref a1), .val (.int (0 : Int32))] [(.int (0 : Int32))])
  refine go (T' := s₁) (f' := (mkF m 4 #[.val (.ref a0), .val (.ref a1), .val (.int (0 : Int32))] [(.ref a0), (.int (0 : Int32))])) (by intro t k; exact XS.aloadN X0.here hx rfl (hb hby d3_3) rfl rfl k) ?_
  show Run _ _ _ _ _ _ _ s₁ (mkF m 4 #[.val (.ref a0), .val (.ref a1), .val (.int (0 : Int32))] [(.ref a0), (.int (0 : Int32))])
  obtain ⟨T1, X1, e1, st1⟩ := getF X0 hx hZ hown (host := "") (Or.inl (hw _ (List.mem_of_getElem? (i := 10) rfl))) Via.refl e0 F_a0 (g := (mkF m 4 #[.val (.ref a0), .val (.ref a1), .val (.int (0 : Int32))] [(.ref a0), (.int (0 : Int32))])) rfl rfl (hb hby d3_4)
  refine go st1 ?_
  show Run _ _ _ _ _ _ _ T1 (mkF m 7 #[.val (.ref a0), .val (.ref a1), .val (.int (0 : Int32))] [(.ref b), (.int (0 : Int32))])
  refine go (T' := T1) (f' := (mkF m 8 #[.val (.ref a0), .val (.ref a1), .val (.int (0 : Int32))] [(.int (2 : Int32)), (.int (0 : Int32))])) (by intro t k; exact alen X1 hx hZ e1 A_b (z := (2 : Int32)) rfl (g := (mkF m 7 #[.val (.ref a0), .val (.ref a1), .val (.int (0 : Int32))] [(.ref b), (.int (0 : Int32))])) rfl rfl (hb hby d3_7) _ k) ?_
  show Run _ _ _ _ _ _ _ T1 (mkF m 8 #[.val (.ref a0), .val (.ref a1), .val (.int (0 : Int32))] [(.int (2 : Int32)), (.int (0 : Int32))])
  refine go (T' := T1) (f' := (mkF m 11 #[.val (.ref a0), .val (.ref a1), .val (.int (0 : Int32))] [])) (by intro t k; exact XS.icmpNo X1.here hx rfl (hb hby d3_8) rfl (tlt (by decide : (0 : Int32) < (2 : Int32))).2.1 k) ?_
  show Run _ _ _ _ _ _ _ T1 (mkF m 11 #[.val (.ref a0), .val (.ref a1), .val (.int (0 : Int32))] [])
  refine go (T' := T1) (f' := (mkF m 12 #[.val (.ref a0), .val (.ref a1), .val (.int (0 : Int32))] [(.ref a0)])) (by intro t k; exact XS.aloadN X1.here hx rfl (hb hby d3_11) rfl rfl k) ?_
  show Run _ _ _ _ _ _ _ T1 (mkF m 12 #[.val (.ref a0), .val (.ref a1), .val (.int (0 : Int32))] [(.ref a0)])
  obtain ⟨T2, X2, e2, st2⟩ := getF X1 hx hZ hown (host := "") (Or.inl (hw _ (List.mem_of_getElem? (i := 10) rfl))) Via.refl e1 F_a0 (g := (mkF m 12 #[.val (.ref a0), .val (.ref a1), .val (.int (0 : Int32))] [(.ref a0)])) rfl rfl (hb hby d3_12)
  refine go st2 ?_
  show Run _ _ _ _ _ _ _ T2 (mkF m 15 #[.val (.ref a0), .val (.ref a1), .val (.int (0 : Int32))] [(.ref b)])
  refine go (T' := T2) (f' := (mkF m 16 #[.val (.ref a0), .val (.ref a1), .val (.int (0 : Int32))] [(.int (0 : Int32)), (.ref b)])) (by intro t k; exact XS.iloadN X2.here hx rfl (hb hby d3_15) rfl k) ?_
  show Run _ _ _ _ _ _ _ T2 (mkF m 16 #[.val (.ref a0), .val (.ref a1), .val (.int (0 : Int32))] [(.int (0 : Int32)), (.ref b)])
  refine go (T' := T2) (f' := (mkF m 17 #[.val (.ref a0), .val (.ref a1), .val (.int (0 : Int32))] [(.int (0 : Int32)), (.ref b), (.int (0 : Int32)), (.ref b)])) (by intro t k; exact XT.dup2 X2.here hx rfl (hb hby d3_16) rfl rfl rfl k) ?_
  show Run _ _ _ _ _ _ _ T2 (mkF m 17 #[.val (.ref a0), .val (.ref a1), .val (.int (0 : Int32))] [(.int (0 : Int32)), (.ref b), (.int (0 : Int32)), (.ref b)])
  refine go (T' := T2) (f' := (mkF m 18 #[.val (.ref a0), .val (.ref a1), .val (.int (0 : Int32))] [(.long x0), (.int (0 : Int32)), (.ref b)])) (by intro t k; exact ldJ X2 hx hZ e2 A_b (j := (0 : Int32)) (v := (.long x0)) (by decide) rfl (g := (mkF m 17 #[.val (.ref a0), .val (.ref a1), .val (.int (0 : Int32))] [(.int (0 : Int32)), (.ref b), (.int (0 : Int32)), (.ref b)])) rfl rfl (hb hby d3_17) _ k) ?_
  show Run _ _ _ _ _ _ _ T2 (mkF m 18 #[.val (.ref a0), .val (.ref a1), .val (.int (0 : Int32))] [(.long x0), (.int (0 : Int32)), (.ref b)])
  refine go (T' := T2) (f' := (mkF m 19 #[.val (.ref a0), .val (.ref a1), .val (.int (0 : Int32))] [(.ref a1), (.long x0), (.int (0 : Int32)), (.ref b)])) (by intro t k; exact XS.aloadN X2.here hx rfl (hb hby d3_18) rfl rfl k) ?_
  show Run _ _ _ _ _ _ _ T2 (mkF m 19 #[.val (.ref a0), .val (.ref a1), .val (.int (0 : Int32))] [(.ref a1), (.long x0), (.int (0 : Int32)), (.ref b)])
  obtain ⟨T3, X3, e3, st3⟩ := getF X2 hx hZ hown (host := "") (Or.inl (hw _ (List.mem_of_getElem? (i := 10) rfl))) Via.refl e2 F_a1 (g := (mkF m 19 #[.val (.ref a0), .val (.ref a1), .val (.int (0 : Int32))] [(.ref a1), (.long x0), (.int (0 : Int32)), (.ref b)])) rfl rfl (hb hby d3_19)
  refine go st3 ?_
  show Run _ _ _ _ _ _ _ T3 (mkF m 22 #[.val (.ref a0), .val (.ref a1), .val (.int (0 : Int32))] [(.ref d), (.long x0), (.int (0 : Int32)), (.ref b)])
  refine go (T' := T3) (f' := (mkF m 23 #[.val (.ref a0), .val (.ref a1), .val (.int (0 : Int32))] [(.int (0 : Int32)), (.ref d), (.long x0), (.int (0 : Int32)), (.ref b)])) (by intro t k; exact XS.iloadN X3.here hx rfl (hb hby d3_22) rfl k) ?_
  show Run _ _ _ _ _ _ _ T3 (mkF m 23 #[.val (.ref a0), .val (.ref a1), .val (.int (0 : Int32))] [(.int (0 : Int32)), (.ref d), (.long x0), (.int (0 : Int32)), (.ref b)])
  refine go (T' := T3) (f' := (mkF m 24 #[.val (.ref a0), .val (.ref a1), .val (.int (0 : Int32))] [(.long y0), (.long x0), (.int (0 : Int32)), (.ref b)])) (by intro t k; exact ldJ X3 hx hZ e3 A_d (j := (0 : Int32)) (v := (.long y0)) (by decide) rfl (g := (mkF m 23 #[.val (.ref a0), .val (.ref a1), .val (.int (0 : Int32))] [(.int (0 : Int32)), (.ref d), (.long x0), (.int (0 : Int32)), (.ref b)])) rfl rfl (hb hby d3_23) _ k) ?_
  show Run _ _ _ _ _ _ _ T3 (mkF m 24 #[.val (.ref a0), .val (.ref a1), .val (.int (0 : Int32))] [(.long y0), (.long x0), (.int (0 : Int32)), (.ref b)])
  refine go (T' := T3) (f' := (mkF m 25 #[.val (.ref a0), .val (.ref a1), .val (.int (0 : Int32))] [(.long (x0 ||| y0)), (.int (0 : Int32)), (.ref b)])) (by intro t k; exact XS.lor X3.here hx rfl (hb hby d3_24) rfl k) ?_
  show Run _ _ _ _ _ _ _ T3 (mkF m 25 #[.val (.ref a0), .val (.ref a1), .val (.int (0 : Int32))] [(.long (x0 ||| y0)), (.int (0 : Int32)), (.ref b)])
  obtain ⟨cl4, Ar4, hin4⟩ := Ary.st (j := (0 : Int32)) A_b (by decide) (by show (0 : Int32).toNatClampNeg < 2; decide)
  obtain ⟨T4, h4, X4, e4, W4, st4⟩ := stJ X3 hx hZ e3 Ar4 (j := (0 : Int32)) hin4 (g := (mkF m 25 #[.val (.ref a0), .val (.ref a1), .val (.int (0 : Int32))] [(.long (x0 ||| y0)), (.int (0 : Int32)), (.ref b)])) rfl rfl (hb hby d3_25)
  have K4 : Keep h0 h4 [b] := Keep.of_wr W4
  have V4 : Ary Z h4 b .long [(.long (x0 ||| y0)), (.long x1)] := Ary.set A_b W4 rfl
  have N4 := Fr.snoc X4 N0 g_b
  have F4_a0_words : Fld Z h4 a0 "com/example/barnacle/barnacle/BitArray" "words" "[J" (.ref b) := F_a0.keep K4 (ninS n_0b nin0)
  have F4_a1_words : Fld Z h4 a1 "com/example/barnacle/barnacle/BitArray" "words" "[J" (.ref d) := F_a1.keep K4 (ninS n_1b nin0)
  have A4_d : Ary Z h4 d .long [(.long y0), (.long y1)] := A_d.keep K4 (ninS (Ne.symm n_bd) nin0)
  have Z4 : n0 ≤ h4.size := Nat.le_trans Z0 K4.1
  have KK4 : Keep h0 h4 [b] := (Keep.refl _ _).trans K4 (allS (Or.inl (List.mem_of_getElem? (i := 0) rfl)) all0)
  refine go st4 ?_
  show Run _ _ _ _ _ _ _ T4 (mkF m 26 #[.val (.ref a0), .val (.ref a1), .val (.int (0 : Int32))] [])
  refine go (T' := T4) (f' := (mkF m 29 #[.val (.ref a0), .val (.ref a1), .val (.int (1 : Int32))] [])) (by intro t k; exact XS.iinc X4.here hx rfl (hb hby d3_26) rfl (l' := #[.val (.ref a0), .val (.ref a1), .val (.int (1 : Int32))]) rfl k) ?_
  show Run _ _ _ _ _ _ _ T4 (mkF m 29 #[.val (.ref a0), .val (.ref a1), .val (.int (1 : Int32))] [])
  refine go (T' := T4) (f' := (mkF m 2 #[.val (.ref a0), .val (.ref a1), .val (.int (1 : Int32))] [])) (by intro t k; exact XS.goto X4.here hx rfl (pc0 := 29) (pc' := 2) rfl (hb hby d3_29) (by decide) (by decide) k) ?_
  show Run _ _ _ _ _ _ _ T4 (mkF m 2 #[.val (.ref a0), .val (.ref a1), .val (.int (1 : Int32))] [])
  refine go (T' := T4) (f' := (mkF m 3 #[.val (.ref a0), .val (.ref a1), .val (.int (1 : Int32))] [(.int (1 : Int32))])) (by intro t k; exact XS.iloadN X4.here hx rfl (hb hby d3_2) rfl k) ?_
  show Run _ _ _ _ _ _ _ T4 (mkF m 3 #[.val (.ref a0), .val (.ref a1), .val (.int (1 : Int32))] [(.int (1 : Int32))])
  refine go (T' := T4) (f' := (mkF m 4 #[.val (.ref a0), .val (.ref a1), .val (.int (1 : Int32))] [(.ref a0), (.int (1 : Int32))])) (by intro t k; exact XS.aloadN X4.here hx rfl (hb hby d3_3) rfl rfl k) ?_
  show Run _ _ _ _ _ _ _ T4 (mkF m 4 #[.val (.ref a0), .val (.ref a1), .val (.int (1 : Int32))] [(.ref a0), (.int (1 : Int32))])
  obtain ⟨T5, X5, e5, st5⟩ := getF X4 hx hZ hown (host := "") (Or.inl (hw _ (List.mem_of_getElem? (i := 10) rfl))) Via.refl e4 F4_a0_words (g := (mkF m 4 #[.val (.ref a0), .val (.ref a1), .val (.int (1 : Int32))] [(.ref a0), (.int (1 : Int32))])) rfl rfl (hb hby d3_4)
  refine go st5 ?_
  show Run _ _ _ _ _ _ _ T5 (mkF m 7 #[.val (.ref a0), .val (.ref a1), .val (.int (1 : Int32))] [(.ref b), (.int (1 : Int32))])
  refine go (T' := T5) (f' := (mkF m 8 #[.val (.ref a0), .val (.ref a1), .val (.int (1 : Int32))] [(.int (2 : Int32)), (.int (1 : Int32))])) (by intro t k; exact alen X5 hx hZ e5 V4 (z := (2 : Int32)) rfl (g := (mkF m 7 #[.val (.ref a0), .val (.ref a1), .val (.int (1 : Int32))] [(.ref b), (.int (1 : Int32))])) rfl rfl (hb hby d3_7) _ k) ?_
  show Run _ _ _ _ _ _ _ T5 (mkF m 8 #[.val (.ref a0), .val (.ref a1), .val (.int (1 : Int32))] [(.int (2 : Int32)), (.int (1 : Int32))])
  refine go (T' := T5) (f' := (mkF m 11 #[.val (.ref a0), .val (.ref a1), .val (.int (1 : Int32))] [])) (by intro t k; exact XS.icmpNo X5.here hx rfl (hb hby d3_8) rfl (tlt (by decide : (1 : Int32) < (2 : Int32))).2.1 k) ?_
  show Run _ _ _ _ _ _ _ T5 (mkF m 11 #[.val (.ref a0), .val (.ref a1), .val (.int (1 : Int32))] [])
  refine go (T' := T5) (f' := (mkF m 12 #[.val (.ref a0), .val (.ref a1), .val (.int (1 : Int32))] [(.ref a0)])) (by intro t k; exact XS.aloadN X5.here hx rfl (hb hby d3_11) rfl rfl k) ?_
  show Run _ _ _ _ _ _ _ T5 (mkF m 12 #[.val (.ref a0), .val (.ref a1), .val (.int (1 : Int32))] [(.ref a0)])
  obtain ⟨T6, X6, e6, st6⟩ := getF X5 hx hZ hown (host := "") (Or.inl (hw _ (List.mem_of_getElem? (i := 10) rfl))) Via.refl e5 F4_a0_words (g := (mkF m 12 #[.val (.ref a0), .val (.ref a1), .val (.int (1 : Int32))] [(.ref a0)])) rfl rfl (hb hby d3_12)
  refine go st6 ?_
  show Run _ _ _ _ _ _ _ T6 (mkF m 15 #[.val (.ref a0), .val (.ref a1), .val (.int (1 : Int32))] [(.ref b)])
  refine go (T' := T6) (f' := (mkF m 16 #[.val (.ref a0), .val (.ref a1), .val (.int (1 : Int32))] [(.int (1 : Int32)), (.ref b)])) (by intro t k; exact XS.iloadN X6.here hx rfl (hb hby d3_15) rfl k) ?_
  show Run _ _ _ _ _ _ _ T6 (mkF m 16 #[.val (.ref a0), .val (.ref a1), .val (.int (1 : Int32))] [(.int (1 : Int32)), (.ref b)])
  refine go (T' := T6) (f' := (mkF m 17 #[.val (.ref a0), .val (.ref a1), .val (.int (1 : Int32))] [(.int (1 : Int32)), (.ref b), (.int (1 : Int32)), (.ref b)])) (by intro t k; exact XT.dup2 X6.here hx rfl (hb hby d3_16) rfl rfl rfl k) ?_
  show Run _ _ _ _ _ _ _ T6 (mkF m 17 #[.val (.ref a0), .val (.ref a1), .val (.int (1 : Int32))] [(.int (1 : Int32)), (.ref b), (.int (1 : Int32)), (.ref b)])
  refine go (T' := T6) (f' := (mkF m 18 #[.val (.ref a0), .val (.ref a1), .val (.int (1 : Int32))] [(.long x1), (.int (1 : Int32)), (.ref b)])) (by intro t k; exact ldJ X6 hx hZ e6 V4 (j := (1 : Int32)) (v := (.long x1)) (by decide) rfl (g := (mkF m 17 #[.val (.ref a0), .val (.ref a1), .val (.int (1 : Int32))] [(.int (1 : Int32)), (.ref b), (.int (1 : Int32)), (.ref b)])) rfl rfl (hb hby d3_17) _ k) ?_
  show Run _ _ _ _ _ _ _ T6 (mkF m 18 #[.val (.ref a0), .val (.ref a1), .val (.int (1 : Int32))] [(.long x1), (.int (1 : Int32)), (.ref b)])
  refine go (T' := T6) (f' := (mkF m 19 #[.val (.ref a0), .val (.ref a1), .val (.int (1 : Int32))] [(.ref a1), (.long x1), (.int (1 : Int32)), (.ref b)])) (by intro t k; exact XS.aloadN X6.here hx rfl (hb hby d3_18) rfl rfl k) ?_
  show Run _ _ _ _ _ _ _ T6 (mkF m 19 #[.val (.ref a0), .val (.ref a1), .val (.int (1 : Int32))] [(.ref a1), (.long x1), (.int (1 : Int32)), (.ref b)])
  obtain ⟨T7, X7, e7, st7⟩ := getF X6 hx hZ hown (host := "") (Or.inl (hw _ (List.mem_of_getElem? (i := 10) rfl))) Via.refl e6 F4_a1_words (g := (mkF m 19 #[.val (.ref a0), .val (.ref a1), .val (.int (1 : Int32))] [(.ref a1), (.long x1), (.int (1 : Int32)), (.ref b)])) rfl rfl (hb hby d3_19)
  refine go st7 ?_
  show Run _ _ _ _ _ _ _ T7 (mkF m 22 #[.val (.ref a0), .val (.ref a1), .val (.int (1 : Int32))] [(.ref d), (.long x1), (.int (1 : Int32)), (.ref b)])
  refine go (T' := T7) (f' := (mkF m 23 #[.val (.ref a0), .val (.ref a1), .val (.int (1 : Int32))] [(.int (1 : Int32)), (.ref d), (.long x1), (.int (1 : Int32)), (.ref b)])) (by intro t k; exact XS.iloadN X7.here hx rfl (hb hby d3_22) rfl k) ?_
  show Run _ _ _ _ _ _ _ T7 (mkF m 23 #[.val (.ref a0), .val (.ref a1), .val (.int (1 : Int32))] [(.int (1 : Int32)), (.ref d), (.long x1), (.int (1 : Int32)), (.ref b)])
  refine go (T' := T7) (f' := (mkF m 24 #[.val (.ref a0), .val (.ref a1), .val (.int (1 : Int32))] [(.long y1), (.long x1), (.int (1 : Int32)), (.ref b)])) (by intro t k; exact ldJ X7 hx hZ e7 A4_d (j := (1 : Int32)) (v := (.long y1)) (by decide) rfl (g := (mkF m 23 #[.val (.ref a0), .val (.ref a1), .val (.int (1 : Int32))] [(.int (1 : Int32)), (.ref d), (.long x1), (.int (1 : Int32)), (.ref b)])) rfl rfl (hb hby d3_23) _ k) ?_
  show Run _ _ _ _ _ _ _ T7 (mkF m 24 #[.val (.ref a0), .val (.ref a1), .val (.int (1 : Int32))] [(.long y1), (.long x1), (.int (1 : Int32)), (.ref b)])
  refine go (T' := T7) (f' := (mkF m 25 #[.val (.ref a0), .val (.ref a1), .val (.int (1 : Int32))] [(.long (x1 ||| y1)), (.int (1 : Int32)), (.ref b)])) (by intro t k; exact XS.lor X7.here hx rfl (hb hby d3_24) rfl k) ?_
  show Run _ _ _ _ _ _ _ T7 (mkF m 25 #[.val (.ref a0), .val (.ref a1), .val (.int (1 : Int32))] [(.long (x1 ||| y1)), (.int (1 : Int32)), (.ref b)])
  obtain ⟨cl8, Ar8, hin8⟩ := Ary.st (j := (1 : Int32)) V4 (by decide) (by show (1 : Int32).toNatClampNeg < 2; decide)
  obtain ⟨T8, h8, X8, e8, W8, st8⟩ := stJ X7 hx hZ e7 Ar8 (j := (1 : Int32)) hin8 (g := (mkF m 25 #[.val (.ref a0), .val (.ref a1), .val (.int (1 : Int32))] [(.long (x1 ||| y1)), (.int (1 : Int32)), (.ref b)])) rfl rfl (hb hby d3_25)
  have K8 : Keep h4 h8 [b] := Keep.of_wr W8
  have V8 : Ary Z h8 b .long [(.long (x0 ||| y0)), (.long (x1 ||| y1))] := Ary.set V4 W8 rfl
  have N8 := Fr.snoc X8 N4 g_b
  have F8_a0_words : Fld Z h8 a0 "com/example/barnacle/barnacle/BitArray" "words" "[J" (.ref b) := F4_a0_words.keep K8 (ninS n_0b nin0)
  have F8_a1_words : Fld Z h8 a1 "com/example/barnacle/barnacle/BitArray" "words" "[J" (.ref d) := F4_a1_words.keep K8 (ninS n_1b nin0)
  have A8_d : Ary Z h8 d .long [(.long y0), (.long y1)] := A4_d.keep K8 (ninS (Ne.symm n_bd) nin0)
  have Z8 : n0 ≤ h8.size := Nat.le_trans Z4 K8.1
  have KK8 : Keep h0 h8 [b] := KK4.trans K8 (allS (Or.inl (List.mem_of_getElem? (i := 0) rfl)) all0)
  refine go st8 ?_
  show Run _ _ _ _ _ _ _ T8 (mkF m 26 #[.val (.ref a0), .val (.ref a1), .val (.int (1 : Int32))] [])
  refine go (T' := T8) (f' := (mkF m 29 #[.val (.ref a0), .val (.ref a1), .val (.int (2 : Int32))] [])) (by intro t k; exact XS.iinc X8.here hx rfl (hb hby d3_26) rfl (l' := #[.val (.ref a0), .val (.ref a1), .val (.int (2 : Int32))]) rfl k) ?_
  show Run _ _ _ _ _ _ _ T8 (mkF m 29 #[.val (.ref a0), .val (.ref a1), .val (.int (2 : Int32))] [])
  refine go (T' := T8) (f' := (mkF m 2 #[.val (.ref a0), .val (.ref a1), .val (.int (2 : Int32))] [])) (by intro t k; exact XS.goto X8.here hx rfl (pc0 := 29) (pc' := 2) rfl (hb hby d3_29) (by decide) (by decide) k) ?_
  show Run _ _ _ _ _ _ _ T8 (mkF m 2 #[.val (.ref a0), .val (.ref a1), .val (.int (2 : Int32))] [])
  refine go (T' := T8) (f' := (mkF m 3 #[.val (.ref a0), .val (.ref a1), .val (.int (2 : Int32))] [(.int (2 : Int32))])) (by intro t k; exact XS.iloadN X8.here hx rfl (hb hby d3_2) rfl k) ?_
  show Run _ _ _ _ _ _ _ T8 (mkF m 3 #[.val (.ref a0), .val (.ref a1), .val (.int (2 : Int32))] [(.int (2 : Int32))])
  refine go (T' := T8) (f' := (mkF m 4 #[.val (.ref a0), .val (.ref a1), .val (.int (2 : Int32))] [(.ref a0), (.int (2 : Int32))])) (by intro t k; exact XS.aloadN X8.here hx rfl (hb hby d3_3) rfl rfl k) ?_
  show Run _ _ _ _ _ _ _ T8 (mkF m 4 #[.val (.ref a0), .val (.ref a1), .val (.int (2 : Int32))] [(.ref a0), (.int (2 : Int32))])
  obtain ⟨T9, X9, e9, st9⟩ := getF X8 hx hZ hown (host := "") (Or.inl (hw _ (List.mem_of_getElem? (i := 10) rfl))) Via.refl e8 F8_a0_words (g := (mkF m 4 #[.val (.ref a0), .val (.ref a1), .val (.int (2 : Int32))] [(.ref a0), (.int (2 : Int32))])) rfl rfl (hb hby d3_4)
  refine go st9 ?_
  show Run _ _ _ _ _ _ _ T9 (mkF m 7 #[.val (.ref a0), .val (.ref a1), .val (.int (2 : Int32))] [(.ref b), (.int (2 : Int32))])
  refine go (T' := T9) (f' := (mkF m 8 #[.val (.ref a0), .val (.ref a1), .val (.int (2 : Int32))] [(.int (2 : Int32)), (.int (2 : Int32))])) (by intro t k; exact alen X9 hx hZ e9 V8 (z := (2 : Int32)) rfl (g := (mkF m 7 #[.val (.ref a0), .val (.ref a1), .val (.int (2 : Int32))] [(.ref b), (.int (2 : Int32))])) rfl rfl (hb hby d3_7) _ k) ?_
  show Run _ _ _ _ _ _ _ T9 (mkF m 8 #[.val (.ref a0), .val (.ref a1), .val (.int (2 : Int32))] [(.int (2 : Int32)), (.int (2 : Int32))])
  refine go (T' := T9) (f' := (mkF m 32 #[.val (.ref a0), .val (.ref a1), .val (.int (2 : Int32))] [])) (by intro t k; exact XS.icmpYes X9.here hx rfl (pc0 := 8) (pc' := 32) rfl (hb hby d3_8) rfl (flt (by decide : ¬ ((2 : Int32) < (2 : Int32)))).2.1 (by decide) (by decide) k) ?_
  show Run _ _ _ _ _ _ _ T9 (mkF m 32 #[.val (.ref a0), .val (.ref a1), .val (.int (2 : Int32))] [])
  refine retV X9 hx Bd.returns (hb hby d3_32) hlk (by decide) (by decide) ?_
  show Q3 Z a0 a1 b d x0 x1 y0 y1 h0 n0 _ T9.heap _
  rw [e9]
  exact ⟨rfl, N8, KK8, V8⟩
theorem ef_3s (m : MethodId) (x0 : Addr) (x1 : Addr) : entryFrame m #[(.ref x0), (.ref x1)] 3 = mkF m 0 #[.val (.ref x0), .val (.ref x1), .unset] [] := by first | (simp [entryFrame, mkF, argsToLocals, Value.category]; done) | rfl
def Q3s (Z : State) (a0 : Addr) (a1 : Addr) (b : Addr) (x0 x1 : Int64) (h0 : Heap) (n0 : Nat) (v : Option Value) (h : Heap) (L : List Loc) : Prop := v = none ∧ Fr n0 L ∧ Keep h0 h [b] ∧ Ary Z h b .long [(.long (x0 ||| x0)), (.long (x1 ||| x1))]
set_option maxRecDepth 65536 in
set_option maxHeartbeats 40000000 in
theorem rm3s (l : Launch) (Z : State) (aw : Array Value) (hw : ∀ d ∈ tables_1, d.before aw Z = true) (ws : List Jvm.Cond) (a0 : Addr) (a1 : Addr) (b : Addr) (x0 x1 : Int64) (h0 : Heap) (n0 : Nat) (Z0 : n0 ≤ h0.size) (F_a0 : Fld Z h0 a0 "com/example/barnacle/barnacle/BitArray" "words" "[J" (.ref b)) (F_a1 : Fld Z h0 a1 "com/example/barnacle/barnacle/BitArray" "words" "[J" (.ref b)) (A_b : Ary Z h0 b .long [(.long x0), (.long x1)]) (g_b : n0 ≤ b) (n_0b : a0 ≠ b) (n_1b : a1 ≠ b) :
    MetFree l site_108 (head1 (Jvm.Cond.code site_108 prog_3_method_16_code 3 none :: ws) ({ frames := 0, cells := 0, slots := 0, locals := 0 } : Room)) (fun a U => a = #[(.ref a0), (.ref a1)] ∧ Z.Warmed39 U.vm ∧ U.heap = h0) (fun _ _ _ _ _ => True) (fun _ U o U' => ∃ v L, o = .returned v ∧ Q3s Z a0 a1 b x0 x1 h0 n0 v U'.heap L ∧ FrameEnd U o U' L ({ frames := 0, cells := 0, slots := 0, locals := 0 } : Room).cells ({ frames := 0, cells := 0, slots := 0, locals := 0 } : Room).slots) := by
  refine MetFree.of_bodySF (plainFor_of_name pn_1) hisR ?_
  intro p e s m args below meth c s₁ Bd hml0 hP hK
  obtain ⟨rfl, hZ, hh⟩ := hP
  have hx := Bd.exec
  have hby := Bd.bytes
  have hml : c.maxLocals = 3 := hml0
  have hown : s.vm.findClass "com/example/barnacle/barnacle/BitArray" = some m.cls := findClass_of_methodNamed Bd.named
  have hnm := (name_of_methodNamed Bd.named Bd.method).1
  have hlk : meth.locks = false := BodyLoose.notSynchronized Bd
  have X0 : Stand p l e ({ frames := 0, cells := 0, slots := 0, locals := 0 } : Room) s m #[(.ref a0), (.ref a1)] below meth c s₁ [] 0 0 := Stand.of_body Bd
  have e0 : s₁.heap = h0 := by rw [← hh, Bd.state]; rfl
  have N0 := Fr.nil n0
  show Run p e s below (Q3s Z a0 a1 b x0 x1 h0 n0) ({ frames := 0, cells := 0, slots := 0, locals := 0 } : Room).cells ({ frames := 0, cells := 0, slots := 0, locals := 0 } : Room).slots s₁ (entryFrame m #[(.ref a0), (.ref a1)] 3)
  rw [ef_3s]
  show Run _ _ _ _ _ _ _ s₁ (mkF m 0 #[.val (.ref a0), .val (.ref a1), .unset] [])
  refine go (T' := s₁) (f' := (mkF m 1 #[.val (.ref a0), .val (.ref a1), .unset] [(.int (0 : Int32))])) (by intro t k; exact XS.iconst X0.here hx rfl (hb hby d3_0) k) ?_
  show Run _ _ _ _ _ _ _ s₁ (mkF m 1 #[.val (.ref a0), .val (.ref a1), .unset] [(.int (0 : Int32))])
  refine go (T' := s₁) (f' := (mkF m 2 #[.val (.ref a0), .val (.ref a1), .val (.int (0 : Int32))] [])) (by intro t k; exact XS.istoreN X0.here hx rfl (hb hby d3_1) rfl (l' := #[.val (.ref a0), .val (.ref a1), .val (.int (0 : Int32))]) rfl k) ?_
  show Run _ _ _ _ _ _ _ s₁ (mkF m 2 #[.val (.ref a0), .val (.ref a1), .val (.int (0 : Int32))] [])
  refine go (T' := s₁) (f' := (mkF m 3 #[.val (.ref a0), .val (.ref a1), .val (.int (0 : Int32))] [(.int (0 : Int32))])) (by intro t k; exact XS.iloadN X0.here hx rfl (hb hby d3_2) rfl k) ?_
  show Run _ _ _ _ _ _ _ s₁ (mkF m 3 #[.val (.ref a0), .val (.ref a1), .val (.int (0 : Int32))] [(.int (0 : Int32))])
  refine go (T' := s₁) (f' := (mkF m 4 #[.val (.ref a0), .val (.ref a1), .val (.int (0 : Int32))] [(.ref a0), (.int (0 : Int32))])) (by intro t k; exact XS.aloadN X0.here hx rfl (hb hby d3_3) rfl rfl k) ?_
  show Run _ _ _ _ _ _ _ s₁ (mkF m 4 #[.val (.ref a0), .val (.ref a1), .val (.int (0 : Int32))] [(.ref a0), (.int (0 : Int32))])
  obtain ⟨T1, X1, e1, st1⟩ := getF X0 hx hZ hown (host := "") (Or.inl (hw _ (List.mem_of_getElem? (i := 10) rfl))) Via.refl e0 F_a0 (g := (mkF m 4 #[.val (.ref a0), .val (.ref a1), .val (.int (0 : Int32))] [(.ref a0), (.int (0 : Int32))])) rfl rfl (hb hby d3_4)
  refine go st1 ?_
  show Run _ _ _ _ _ _ _ T1 (mkF m 7 #[.val (.ref a0), .val (.ref a1), .val (.int (0 : Int32))] [(.ref b), (.int (0 : Int32))])
  refine go (T' := T1) (f' := (mkF m 8 #[.val (.ref a0), .val (.ref a1), .val (.int (0 : Int32))] [(.int (2 : Int32)), (.int (0 : Int32))])) (by intro t k; exact alen X1 hx hZ e1 A_b (z := (2 : Int32)) rfl (g := (mkF m 7 #[.val (.ref a0), .val (.ref a1), .val (.int (0 : Int32))] [(.ref b), (.int (0 : Int32))])) rfl rfl (hb hby d3_7) _ k) ?_
  show Run _ _ _ _ _ _ _ T1 (mkF m 8 #[.val (.ref a0), .val (.ref a1), .val (.int (0 : Int32))] [(.int (2 : Int32)), (.int (0 : Int32))])
  refine go (T' := T1) (f' := (mkF m 11 #[.val (.ref a0), .val (.ref a1), .val (.int (0 : Int32))] [])) (by intro t k; exact XS.icmpNo X1.here hx rfl (hb hby d3_8) rfl (tlt (by decide : (0 : Int32) < (2 : Int32))).2.1 k) ?_
  show Run _ _ _ _ _ _ _ T1 (mkF m 11 #[.val (.ref a0), .val (.ref a1), .val (.int (0 : Int32))] [])
  refine go (T' := T1) (f' := (mkF m 12 #[.val (.ref a0), .val (.ref a1), .val (.int (0 : Int32))] [(.ref a0)])) (by intro t k; exact XS.aloadN X1.here hx rfl (hb hby d3_11) rfl rfl k) ?_
  show Run _ _ _ _ _ _ _ T1 (mkF m 12 #[.val (.ref a0), .val (.ref a1), .val (.int (0 : Int32))] [(.ref a0)])
  obtain ⟨T2, X2, e2, st2⟩ := getF X1 hx hZ hown (host := "") (Or.inl (hw _ (List.mem_of_getElem? (i := 10) rfl))) Via.refl e1 F_a0 (g := (mkF m 12 #[.val (.ref a0), .val (.ref a1), .val (.int (0 : Int32))] [(.ref a0)])) rfl rfl (hb hby d3_12)
  refine go st2 ?_
  show Run _ _ _ _ _ _ _ T2 (mkF m 15 #[.val (.ref a0), .val (.ref a1), .val (.int (0 : Int32))] [(.ref b)])
  refine go (T' := T2) (f' := (mkF m 16 #[.val (.ref a0), .val (.ref a1), .val (.int (0 : Int32))] [(.int (0 : Int32)), (.ref b)])) (by intro t k; exact XS.iloadN X2.here hx rfl (hb hby d3_15) rfl k) ?_
  show Run _ _ _ _ _ _ _ T2 (mkF m 16 #[.val (.ref a0), .val (.ref a1), .val (.int (0 : Int32))] [(.int (0 : Int32)), (.ref b)])
  refine go (T' := T2) (f' := (mkF m 17 #[.val (.ref a0), .val (.ref a1), .val (.int (0 : Int32))] [(.int (0 : Int32)), (.ref b), (.int (0 : Int32)), (.ref b)])) (by intro t k; exact XT.dup2 X2.here hx rfl (hb hby d3_16) rfl rfl rfl k) ?_
  show Run _ _ _ _ _ _ _ T2 (mkF m 17 #[.val (.ref a0), .val (.ref a1), .val (.int (0 : Int32))] [(.int (0 : Int32)), (.ref b), (.int (0 : Int32)), (.ref b)])
  refine go (T' := T2) (f' := (mkF m 18 #[.val (.ref a0), .val (.ref a1), .val (.int (0 : Int32))] [(.long x0), (.int (0 : Int32)), (.ref b)])) (by intro t k; exact ldJ X2 hx hZ e2 A_b (j := (0 : Int32)) (v := (.long x0)) (by decide) rfl (g := (mkF m 17 #[.val (.ref a0), .val (.ref a1), .val (.int (0 : Int32))] [(.int (0 : Int32)), (.ref b), (.int (0 : Int32)), (.ref b)])) rfl rfl (hb hby d3_17) _ k) ?_
  show Run _ _ _ _ _ _ _ T2 (mkF m 18 #[.val (.ref a0), .val (.ref a1), .val (.int (0 : Int32))] [(.long x0), (.int (0 : Int32)), (.ref b)])
  refine go (T' := T2) (f' := (mkF m 19 #[.val (.ref a0), .val (.ref a1), .val (.int (0 : Int32))] [(.ref a1), (.long x0), (.int (0 : Int32)), (.ref b)])) (by intro t k; exact XS.aloadN X2.here hx rfl (hb hby d3_18) rfl rfl k) ?_
  show Run _ _ _ _ _ _ _ T2 (mkF m 19 #[.val (.ref a0), .val (.ref a1), .val (.int (0 : Int32))] [(.ref a1), (.long x0), (.int (0 : Int32)), (.ref b)])
  obtain ⟨T3, X3, e3, st3⟩ := getF X2 hx hZ hown (host := "") (Or.inl (hw _ (List.mem_of_getElem? (i := 10) rfl))) Via.refl e2 F_a1 (g := (mkF m 19 #[.val (.ref a0), .val (.ref a1), .val (.int (0 : Int32))] [(.ref a1), (.long x0), (.int (0 : Int32)), (.ref b)])) rfl rfl (hb hby d3_19)
  refine go st3 ?_
  show Run _ _ _ _ _ _ _ T3 (mkF m 22 #[.val (.ref a0), .val (.ref a1), .val (.int (0 : Int32))] [(.ref b), (.long x0), (.int (0 : Int32)), (.ref b)])
  refine go (T' := T3) (f' := (mkF m 23 #[.val (.ref a0), .val (.ref a1), .val (.int (0 : Int32))] [(.int (0 : Int32)), (.ref b), (.long x0), (.int (0 : Int32)), (.ref b)])) (by intro t k; exact XS.iloadN X3.here hx rfl (hb hby d3_22) rfl k) ?_
  show Run _ _ _ _ _ _ _ T3 (mkF m 23 #[.val (.ref a0), .val (.ref a1), .val (.int (0 : Int32))] [(.int (0 : Int32)), (.ref b), (.long x0), (.int (0 : Int32)), (.ref b)])
  refine go (T' := T3) (f' := (mkF m 24 #[.val (.ref a0), .val (.ref a1), .val (.int (0 : Int32))] [(.long x0), (.long x0), (.int (0 : Int32)), (.ref b)])) (by intro t k; exact ldJ X3 hx hZ e3 A_b (j := (0 : Int32)) (v := (.long x0)) (by decide) rfl (g := (mkF m 23 #[.val (.ref a0), .val (.ref a1), .val (.int (0 : Int32))] [(.int (0 : Int32)), (.ref b), (.long x0), (.int (0 : Int32)), (.ref b)])) rfl rfl (hb hby d3_23) _ k) ?_
  show Run _ _ _ _ _ _ _ T3 (mkF m 24 #[.val (.ref a0), .val (.ref a1), .val (.int (0 : Int32))] [(.long x0), (.long x0), (.int (0 : Int32)), (.ref b)])
  refine go (T' := T3) (f' := (mkF m 25 #[.val (.ref a0), .val (.ref a1), .val (.int (0 : Int32))] [(.long (x0 ||| x0)), (.int (0 : Int32)), (.ref b)])) (by intro t k; exact XS.lor X3.here hx rfl (hb hby d3_24) rfl k) ?_
  show Run _ _ _ _ _ _ _ T3 (mkF m 25 #[.val (.ref a0), .val (.ref a1), .val (.int (0 : Int32))] [(.long (x0 ||| x0)), (.int (0 : Int32)), (.ref b)])
  obtain ⟨cl4, Ar4, hin4⟩ := Ary.st (j := (0 : Int32)) A_b (by decide) (by show (0 : Int32).toNatClampNeg < 2; decide)
  obtain ⟨T4, h4, X4, e4, W4, st4⟩ := stJ X3 hx hZ e3 Ar4 (j := (0 : Int32)) hin4 (g := (mkF m 25 #[.val (.ref a0), .val (.ref a1), .val (.int (0 : Int32))] [(.long (x0 ||| x0)), (.int (0 : Int32)), (.ref b)])) rfl rfl (hb hby d3_25)
  have K4 : Keep h0 h4 [b] := Keep.of_wr W4
  have V4 : Ary Z h4 b .long [(.long (x0 ||| x0)), (.long x1)] := Ary.set A_b W4 rfl
  have N4 := Fr.snoc X4 N0 g_b
  have F4_a0_words : Fld Z h4 a0 "com/example/barnacle/barnacle/BitArray" "words" "[J" (.ref b) := F_a0.keep K4 (ninS n_0b nin0)
  have F4_a1_words : Fld Z h4 a1 "com/example/barnacle/barnacle/BitArray" "words" "[J" (.ref b) := F_a1.keep K4 (ninS n_1b nin0)
  have Z4 : n0 ≤ h4.size := Nat.le_trans Z0 K4.1
  have KK4 : Keep h0 h4 [b] := (Keep.refl _ _).trans K4 (allS (Or.inl (List.mem_of_getElem? (i := 0) rfl)) all0)
  refine go st4 ?_
  show Run _ _ _ _ _ _ _ T4 (mkF m 26 #[.val (.ref a0), .val (.ref a1), .val (.int (0 : Int32))] [])
  refine go (T' := T4) (f' := (mkF m 29 #[.val (.ref a0), .val (.ref a1), .val (.int (1 : Int32))] [])) (by intro t k; exact XS.iinc X4.here hx rfl (hb hby d3_26) rfl (l' := #[.val (.ref a0), .val (.ref a1), .val (.int (1 : Int32))]) rfl k) ?_
  show Run _ _ _ _ _ _ _ T4 (mkF m 29 #[.val (.ref a0), .val (.ref a1), .val (.int (1 : Int32))] [])
  refine go (T' := T4) (f' := (mkF m 2 #[.val (.ref a0), .val (.ref a1), .val (.int (1 : Int32))] [])) (by intro t k; exact XS.goto X4.here hx rfl (pc0 := 29) (pc' := 2) rfl (hb hby d3_29) (by decide) (by decide) k) ?_
  show Run _ _ _ _ _ _ _ T4 (mkF m 2 #[.val (.ref a0), .val (.ref a1), .val (.int (1 : Int32))] [])
  refine go (T' := T4) (f' := (mkF m 3 #[.val (.ref a0), .val (.ref a1), .val (.int (1 : Int32))] [(.int (1 : Int32))])) (by intro t k; exact XS.iloadN X4.here hx rfl (hb hby d3_2) rfl k) ?_
  show Run _ _ _ _ _ _ _ T4 (mkF m 3 #[.val (.ref a0), .val (.ref a1), .val (.int (1 : Int32))] [(.int (1 : Int32))])
  refine go (T' := T4) (f' := (mkF m 4 #[.val (.ref a0), .val (.ref a1), .val (.int (1 : Int32))] [(.ref a0), (.int (1 : Int32))])) (by intro t k; exact XS.aloadN X4.here hx rfl (hb hby d3_3) rfl rfl k) ?_
  show Run _ _ _ _ _ _ _ T4 (mkF m 4 #[.val (.ref a0), .val (.ref a1), .val (.int (1 : Int32))] [(.ref a0), (.int (1 : Int32))])
  obtain ⟨T5, X5, e5, st5⟩ := getF X4 hx hZ hown (host := "") (Or.inl (hw _ (List.mem_of_getElem? (i := 10) rfl))) Via.refl e4 F4_a0_words (g := (mkF m 4 #[.val (.ref a0), .val (.ref a1), .val (.int (1 : Int32))] [(.ref a0), (.int (1 : Int32))])) rfl rfl (hb hby d3_4)
  refine go st5 ?_
  show Run _ _ _ _ _ _ _ T5 (mkF m 7 #[.val (.ref a0), .val (.ref a1), .val (.int (1 : Int32))] [(.ref b), (.int (1 : Int32))])
  refine go (T' := T5) (f' := (mkF m 8 #[.val (.ref a0), .val (.ref a1), .val (.int (1 : Int32))] [(.int (2 : Int32)), (.int (1 : Int32))])) (by intro t k; exact alen X5 hx hZ e5 V4 (z := (2 : Int32)) rfl (g := (mkF m 7 #[.val (.ref a0), .val (.ref a1), .val (.int (1 : Int32))] [(.ref b), (.int (1 : Int32))])) rfl rfl (hb hby d3_7) _ k) ?_
  show Run _ _ _ _ _ _ _ T5 (mkF m 8 #[.val (.ref a0), .val (.ref a1), .val (.int (1 : Int32))] [(.int (2 : Int32)), (.int (1 : Int32))])
  refine go (T' := T5) (f' := (mkF m 11 #[.val (.ref a0), .val (.ref a1), .val (.int (1 : Int32))] [])) (by intro t k; exact XS.icmpNo X5.here hx rfl (hb hby d3_8) rfl (tlt (by decide : (1 : Int32) < (2 : Int32))).2.1 k) ?_
  show Run _ _ _ _ _ _ _ T5 (mkF m 11 #[.val (.ref a0), .val (.ref a1), .val (.int (1 : Int32))] [])
  refine go (T' := T5) (f' := (mkF m 12 #[.val (.ref a0), .val (.ref a1), .val (.int (1 : Int32))] [(.ref a0)])) (by intro t k; exact XS.aloadN X5.here hx rfl (hb hby d3_11) rfl rfl k) ?_
  show Run _ _ _ _ _ _ _ T5 (mkF m 12 #[.val (.ref a0), .val (.ref a1), .val (.int (1 : Int32))] [(.ref a0)])
  obtain ⟨T6, X6, e6, st6⟩ := getF X5 hx hZ hown (host := "") (Or.inl (hw _ (List.mem_of_getElem? (i := 10) rfl))) Via.refl e5 F4_a0_words (g := (mkF m 12 #[.val (.ref a0), .val (.ref a1), .val (.int (1 : Int32))] [(.ref a0)])) rfl rfl (hb hby d3_12)
  refine go st6 ?_
  show Run _ _ _ _ _ _ _ T6 (mkF m 15 #[.val (.ref a0), .val (.ref a1), .val (.int (1 : Int32))] [(.ref b)])
  refine go (T' := T6) (f' := (mkF m 16 #[.val (.ref a0), .val (.ref a1), .val (.int (1 : Int32))] [(.int (1 : Int32)), (.ref b)])) (by intro t k; exact XS.iloadN X6.here hx rfl (hb hby d3_15) rfl k) ?_
  show Run _ _ _ _ _ _ _ T6 (mkF m 16 #[.val (.ref a0), .val (.ref a1), .val (.int (1 : Int32))] [(.int (1 : Int32)), (.ref b)])
  refine go (T' := T6) (f' := (mkF m 17 #[.val (.ref a0), .val (.ref a1), .val (.int (1 : Int32))] [(.int (1 : Int32)), (.ref b), (.int (1 : Int32)), (.ref b)])) (by intro t k; exact XT.dup2 X6.here hx rfl (hb hby d3_16) rfl rfl rfl k) ?_
  show Run _ _ _ _ _ _ _ T6 (mkF m 17 #[.val (.ref a0), .val (.ref a1), .val (.int (1 : Int32))] [(.int (1 : Int32)), (.ref b), (.int (1 : Int32)), (.ref b)])
  refine go (T' := T6) (f' := (mkF m 18 #[.val (.ref a0), .val (.ref a1), .val (.int (1 : Int32))] [(.long x1), (.int (1 : Int32)), (.ref b)])) (by intro t k; exact ldJ X6 hx hZ e6 V4 (j := (1 : Int32)) (v := (.long x1)) (by decide) rfl (g := (mkF m 17 #[.val (.ref a0), .val (.ref a1), .val (.int (1 : Int32))] [(.int (1 : Int32)), (.ref b), (.int (1 : Int32)), (.ref b)])) rfl rfl (hb hby d3_17) _ k) ?_
  show Run _ _ _ _ _ _ _ T6 (mkF m 18 #[.val (.ref a0), .val (.ref a1), .val (.int (1 : Int32))] [(.long x1), (.int (1 : Int32)), (.ref b)])
  refine go (T' := T6) (f' := (mkF m 19 #[.val (.ref a0), .val (.ref a1), .val (.int (1 : Int32))] [(.ref a1), (.long x1), (.int (1 : Int32)), (.ref b)])) (by intro t k; exact XS.aloadN X6.here hx rfl (hb hby d3_18) rfl rfl k) ?_
  show Run _ _ _ _ _ _ _ T6 (mkF m 19 #[.val (.ref a0), .val (.ref a1), .val (.int (1 : Int32))] [(.ref a1), (.long x1), (.int (1 : Int32)), (.ref b)])
  obtain ⟨T7, X7, e7, st7⟩ := getF X6 hx hZ hown (host := "") (Or.inl (hw _ (List.mem_of_getElem? (i := 10) rfl))) Via.refl e6 F4_a1_words (g := (mkF m 19 #[.val (.ref a0), .val (.ref a1), .val (.int (1 : Int32))] [(.ref a1), (.long x1), (.int (1 : Int32)), (.ref b)])) rfl rfl (hb hby d3_19)
  refine go st7 ?_
  show Run _ _ _ _ _ _ _ T7 (mkF m 22 #[.val (.ref a0), .val (.ref a1), .val (.int (1 : Int32))] [(.ref b), (.long x1), (.int (1 : Int32)), (.ref b)])
  refine go (T' := T7) (f' := (mkF m 23 #[.val (.ref a0), .val (.ref a1), .val (.int (1 : Int32))] [(.int (1 : Int32)), (.ref b), (.long x1), (.int (1 : Int32)), (.ref b)])) (by intro t k; exact XS.iloadN X7.here hx rfl (hb hby d3_22) rfl k) ?_
  show Run _ _ _ _ _ _ _ T7 (mkF m 23 #[.val (.ref a0), .val (.ref a1), .val (.int (1 : Int32))] [(.int (1 : Int32)), (.ref b), (.long x1), (.int (1 : Int32)), (.ref b)])
  refine go (T' := T7) (f' := (mkF m 24 #[.val (.ref a0), .val (.ref a1), .val (.int (1 : Int32))] [(.long x1), (.long x1), (.int (1 : Int32)), (.ref b)])) (by intro t k; exact ldJ X7 hx hZ e7 V4 (j := (1 : Int32)) (v := (.long x1)) (by decide) rfl (g := (mkF m 23 #[.val (.ref a0), .val (.ref a1), .val (.int (1 : Int32))] [(.int (1 : Int32)), (.ref b), (.long x1), (.int (1 : Int32)), (.ref b)])) rfl rfl (hb hby d3_23) _ k) ?_
  show Run _ _ _ _ _ _ _ T7 (mkF m 24 #[.val (.ref a0), .val (.ref a1), .val (.int (1 : Int32))] [(.long x1), (.long x1), (.int (1 : Int32)), (.ref b)])
  refine go (T' := T7) (f' := (mkF m 25 #[.val (.ref a0), .val (.ref a1), .val (.int (1 : Int32))] [(.long (x1 ||| x1)), (.int (1 : Int32)), (.ref b)])) (by intro t k; exact XS.lor X7.here hx rfl (hb hby d3_24) rfl k) ?_
  show Run _ _ _ _ _ _ _ T7 (mkF m 25 #[.val (.ref a0), .val (.ref a1), .val (.int (1 : Int32))] [(.long (x1 ||| x1)), (.int (1 : Int32)), (.ref b)])
  obtain ⟨cl8, Ar8, hin8⟩ := Ary.st (j := (1 : Int32)) V4 (by decide) (by show (1 : Int32).toNatClampNeg < 2; decide)
  obtain ⟨T8, h8, X8, e8, W8, st8⟩ := stJ X7 hx hZ e7 Ar8 (j := (1 : Int32)) hin8 (g := (mkF m 25 #[.val (.ref a0), .val (.ref a1), .val (.int (1 : Int32))] [(.long (x1 ||| x1)), (.int (1 : Int32)), (.ref b)])) rfl rfl (hb hby d3_25)
  have K8 : Keep h4 h8 [b] := Keep.of_wr W8
  have V8 : Ary Z h8 b .long [(.long (x0 ||| x0)), (.long (x1 ||| x1))] := Ary.set V4 W8 rfl
  have N8 := Fr.snoc X8 N4 g_b
  have F8_a0_words : Fld Z h8 a0 "com/example/barnacle/barnacle/BitArray" "words" "[J" (.ref b) := F4_a0_words.keep K8 (ninS n_0b nin0)
  have F8_a1_words : Fld Z h8 a1 "com/example/barnacle/barnacle/BitArray" "words" "[J" (.ref b) := F4_a1_words.keep K8 (ninS n_1b nin0)
  have Z8 : n0 ≤ h8.size := Nat.le_trans Z4 K8.1
  have KK8 : Keep h0 h8 [b] := KK4.trans K8 (allS (Or.inl (List.mem_of_getElem? (i := 0) rfl)) all0)
  refine go st8 ?_
  show Run _ _ _ _ _ _ _ T8 (mkF m 26 #[.val (.ref a0), .val (.ref a1), .val (.int (1 : Int32))] [])
  refine go (T' := T8) (f' := (mkF m 29 #[.val (.ref a0), .val (.ref a1), .val (.int (2 : Int32))] [])) (by intro t k; exact XS.iinc X8.here hx rfl (hb hby d3_26) rfl (l' := #[.val (.ref a0), .val (.ref a1), .val (.int (2 : Int32))]) rfl k) ?_
  show Run _ _ _ _ _ _ _ T8 (mkF m 29 #[.val (.ref a0), .val (.ref a1), .val (.int (2 : Int32))] [])
  refine go (T' := T8) (f' := (mkF m 2 #[.val (.ref a0), .val (.ref a1), .val (.int (2 : Int32))] [])) (by intro t k; exact XS.goto X8.here hx rfl (pc0 := 29) (pc' := 2) rfl (hb hby d3_29) (by decide) (by decide) k) ?_
  show Run _ _ _ _ _ _ _ T8 (mkF m 2 #[.val (.ref a0), .val (.ref a1), .val (.int (2 : Int32))] [])
  refine go (T' := T8) (f' := (mkF m 3 #[.val (.ref a0), .val (.ref a1), .val (.int (2 : Int32))] [(.int (2 : Int32))])) (by intro t k; exact XS.iloadN X8.here hx rfl (hb hby d3_2) rfl k) ?_
  show Run _ _ _ _ _ _ _ T8 (mkF m 3 #[.val (.ref a0), .val (.ref a1), .val (.int (2 : Int32))] [(.int (2 : Int32))])
  refine go (T' := T8) (f' := (mkF m 4 #[.val (.ref a0), .val (.ref a1), .val (.int (2 : Int32))] [(.ref a0), (.int (2 : Int32))])) (by intro t k; exact XS.aloadN X8.here hx rfl (hb hby d3_3) rfl rfl k) ?_
  show Run _ _ _ _ _ _ _ T8 (mkF m 4 #[.val (.ref a0), .val (.ref a1), .val (.int (2 : Int32))] [(.ref a0), (.int (2 : Int32))])
  obtain ⟨T9, X9, e9, st9⟩ := getF X8 hx hZ hown (host := "") (Or.inl (hw _ (List.mem_of_getElem? (i := 10) rfl))) Via.refl e8 F8_a0_words (g := (mkF m 4 #[.val (.ref a0), .val (.ref a1), .val (.int (2 : Int32))] [(.ref a0), (.int (2 : Int32))])) rfl rfl (hb hby d3_4)
  refine go st9 ?_
  show Run _ _ _ _ _ _ _ T9 (mkF m 7 #[.val (.ref a0), .val (.ref a1), .val (.int (2 : Int32))] [(.ref b), (.int (2 : Int32))])
  refine go (T' := T9) (f' := (mkF m 8 #[.val (.ref a0), .val (.ref a1), .val (.int (2 : Int32))] [(.int (2 : Int32)), (.int (2 : Int32))])) (by intro t k; exact alen X9 hx hZ e9 V8 (z := (2 : Int32)) rfl (g := (mkF m 7 #[.val (.ref a0), .val (.ref a1), .val (.int (2 : Int32))] [(.ref b), (.int (2 : Int32))])) rfl rfl (hb hby d3_7) _ k) ?_
  show Run _ _ _ _ _ _ _ T9 (mkF m 8 #[.val (.ref a0), .val (.ref a1), .val (.int (2 : Int32))] [(.int (2 : Int32)), (.int (2 : Int32))])
  refine go (T' := T9) (f' := (mkF m 32 #[.val (.ref a0), .val (.ref a1), .val (.int (2 : Int32))] [])) (by intro t k; exact XS.icmpYes X9.here hx rfl (pc0 := 8) (pc' := 32) rfl (hb hby d3_8) rfl (flt (by decide : ¬ ((2 : Int32) < (2 : Int32)))).2.1 (by decide) (by decide) k) ?_
  show Run _ _ _ _ _ _ _ T9 (mkF m 32 #[.val (.ref a0), .val (.ref a1), .val (.int (2 : Int32))] [])
  refine retV X9 hx Bd.returns (hb hby d3_32) hlk (by decide) (by decide) ?_
  show Q3s Z a0 a1 b x0 x1 h0 n0 _ T9.heap _
  rw [e9]
  exact ⟨rfl, N8, KK8, V8⟩
theorem d4_0 : decode prog_3_method_11_code 0 = .ok (.aload_n 0, 1) := by decide +kernel
theorem d4_1 : decode prog_3_method_11_code 1 = .ok (.getfield 13, 3) := by decide +kernel
theorem d4_4 : decode prog_3_method_11_code 4 = .ok (.iload_n 1, 1) := by decide +kernel
theorem d4_5 : decode prog_3_method_11_code 5 = .ok (.laload, 1) := by decide +kernel
theorem d4_6 : decode prog_3_method_11_code 6 = .ok (.lreturn, 1) := by decide +kernel
theorem ef_4 (m : MethodId) (x0 : Addr) (x1 : Int32) : entryFrame m #[(.ref x0), (.int x1)] 2 = mkF m 0 #[.val (.ref x0), .val (.int x1)] [] := by first | (simp [entryFrame, mkF, argsToLocals, Value.category]; done) | rfl
def Q4 (Z : State) (a0 : Addr) (p1 : Int32) (b : Addr) (vs : List Value) (x : Int64) (h0 : Heap) (n0 : Nat) (v : Option Value) (h : Heap) (L : List Loc) : Prop := v = some (.long x) ∧ Fr n0 L ∧ h = h0
set_option maxRecDepth 65536 in
set_option maxHeartbeats 40000000 in
theorem rm4 (l : Launch) (Z : State) (aw : Array Value) (hw : ∀ d ∈ tables_1, d.before aw Z = true) (ws : List Jvm.Cond) (a0 : Addr) (p1 : Int32) (b : Addr) (vs : List Value) (x : Int64) (h0 : Heap) (n0 : Nat) (Z0 : n0 ≤ h0.size) (F_a0 : Fld Z h0 a0 "com/example/barnacle/barnacle/BitArray" "words" "[J" (.ref b)) (A_b : Ary Z h0 b .long vs) (hj : ¬ p1 < 0) (hget : vs[p1.toNatClampNeg]? = some (.long x)) :
    MetFree l (⟨"com/example/barnacle/barnacle/BitArray", "word", "(I)J"⟩ : MethodName) (head1 (Jvm.Cond.code (⟨"com/example/barnacle/barnacle/BitArray", "word", "(I)J"⟩ : MethodName) prog_3_method_11_code 2 (some .long) :: ws) ({ frames := 0, cells := 0, slots := 0, locals := 0 } : Room)) (fun a U => a = #[(.ref a0), (.int p1)] ∧ Z.Warmed39 U.vm ∧ U.heap = h0) (fun _ _ _ _ _ => True) (fun _ U o U' => ∃ v L, o = .returned v ∧ Q4 Z a0 p1 b vs x h0 n0 v U'.heap L ∧ FrameEnd U o U' L ({ frames := 0, cells := 0, slots := 0, locals := 0 } : Room).cells ({ frames := 0, cells := 0, slots := 0, locals := 0 } : Room).slots) := by
  refine MetFree.of_bodySF (plainFor_of_name pn_1) hisR ?_
  intro p e s m args below meth c s₁ Bd hml0 hP hK
  obtain ⟨rfl, hZ, hh⟩ := hP
  have hx := Bd.exec
  have hby := Bd.bytes
  have hml : c.maxLocals = 2 := hml0
  have hown : s.vm.findClass "com/example/barnacle/barnacle/BitArray" = some m.cls := findClass_of_methodNamed Bd.named
  have hnm := (name_of_methodNamed Bd.named Bd.method).1
  have hlk : meth.locks = false := BodyLoose.notSynchronized Bd
  have X0 : Stand p l e ({ frames := 0, cells := 0, slots := 0, locals := 0 } : Room) s m #[(.ref a0), (.int p1)] below meth c s₁ [] 0 0 := Stand.of_body Bd
  have e0 : s₁.heap = h0 := by rw [← hh, Bd.state]; rfl
  have N0 := Fr.nil n0
  show Run p e s below (Q4 Z a0 p1 b vs x h0 n0) ({ frames := 0, cells := 0, slots := 0, locals := 0 } : Room).cells ({ frames := 0, cells := 0, slots := 0, locals := 0 } : Room).slots s₁ (entryFrame m #[(.ref a0), (.int p1)] 2)
  rw [ef_4]
  show Run _ _ _ _ _ _ _ s₁ (mkF m 0 #[.val (.ref a0), .val (.int p1)] [])
  refine go (T' := s₁) (f' := (mkF m 1 #[.val (.ref a0), .val (.int p1)] [(.ref a0)])) (by intro t k; exact XS.aloadN X0.here hx rfl (hb hby d4_0) rfl rfl k) ?_
  show Run _ _ _ _ _ _ _ s₁ (mkF m 1 #[.val (.ref a0), .val (.int p1)] [(.ref a0)])
  obtain ⟨T1, X1, e1, st1⟩ := getF X0 hx hZ hown (host := "") (Or.inl (hw _ (List.mem_of_getElem? (i := 10) rfl))) Via.refl e0 F_a0 (g := (mkF m 1 #[.val (.ref a0), .val (.int p1)] [(.ref a0)])) rfl rfl (hb hby d4_1)
  refine go st1 ?_
  show Run _ _ _ _ _ _ _ T1 (mkF m 4 #[.val (.ref a0), .val (.int p1)] [(.ref b)])
  refine go (T' := T1) (f' := (mkF m 5 #[.val (.ref a0), .val (.int p1)] [(.int p1), (.ref b)])) (by intro t k; exact XS.iloadN X1.here hx rfl (hb hby d4_4) rfl k) ?_
  show Run _ _ _ _ _ _ _ T1 (mkF m 5 #[.val (.ref a0), .val (.int p1)] [(.int p1), (.ref b)])
  refine go (T' := T1) (f' := (mkF m 6 #[.val (.ref a0), .val (.int p1)] [(.long x)])) (by intro t k; exact ldJ X1 hx hZ e1 A_b (j := p1) (v := (.long x)) hj hget (g := (mkF m 5 #[.val (.ref a0), .val (.int p1)] [(.int p1), (.ref b)])) rfl rfl (hb hby d4_5) _ k) ?_
  show Run _ _ _ _ _ _ _ T1 (mkF m 6 #[.val (.ref a0), .val (.int p1)] [(.long x)])
  refine retW X1 hx (t := .long) Bd.returns rfl (Or.inr (Or.inl ⟨rfl, rfl, _, rfl⟩)) (hb hby d4_6) hlk (by decide) (by decide) ?_
  show Q4 Z a0 p1 b vs x h0 n0 _ T1.heap _
  rw [e1]
  have hv : (some (.long x) : Option Value) = some (.long x) := rfl
  exact ⟨hv, N0, rfl⟩
theorem own_01 {z y : Int32} (h : z = if y = 0 then 0 else 1) : z = 0 ∨ z = 1 := by
  by_cases q : y = 0
  · rw [if_pos q] at h; exact Or.inl h
  · rw [if_neg q] at h; exact Or.inr h
theorem pd_285bJ29V : parseMethodDescriptor "([J)V" = some ⟨[(.array .long)], none⟩ := by decide +kernel
theorem pd_28Lcom2fexample2fbarnacle2fbarnacle2fBitArray3b29V : parseMethodDescriptor "(Lcom/example/barnacle/barnacle/BitArray;)V" = some ⟨[(.object "com/example/barnacle/barnacle/BitArray")], none⟩ := by decide +kernel
theorem pd_28I29J : parseMethodDescriptor "(I)J" = some ⟨[.int], some .long⟩ := by decide +kernel
theorem pn_0 : plainName "com/example/barnacle/barnacle/BitArrayIncludePinLaw" = true := by first | (simp [plainName, overriddenIn]; done) | decide +kernel
theorem ef_0 (m : MethodId) (x0 : Int64) (x1 : Int64) (x2 : Int64) (x3 : Int64) (x4 : Int32) : entryFrame m #[(.long x0), (.long x1), (.long x2), (.long x3), (.int x4)] maxLocals = mkF m 0 #[.val (.long x0), .second, .val (.long x1), .second, .val (.long x2), .second, .val (.long x3), .second, .val (.int x4), .unset, .unset, .unset, .unset, .unset, .unset, .unset, .unset, .unset, .unset] [] := by first | (simp [entryFrame, mkF, argsToLocals, Value.category, maxLocals]; done) | rfl
def Q0 (Z : State) (q0 : Int64) (q1 : Int64) (q2 : Int64) (q3 : Int64) (p4 : Int32) (h0 : Heap) (n0 : Nat) (v : Option Value) (h : Heap) (L : List Loc) : Prop := v = some (.int (1 : Int32)) ∧ Fr n0 L
set_option maxRecDepth 65536 in
set_option maxHeartbeats 40000000 in
theorem rm0 (l : Launch) (Z : State) (aw : Array Value) (hw : ∀ d ∈ tables_1, d.before aw Z = true) (ws : List Jvm.Cond) (q0 : Int64) (q1 : Int64) (q2 : Int64) (q3 : Int64) (p4 : Int32) (h0 : Heap) (n0 : Nat) (Z0 : n0 ≤ h0.size) :
    MetFree l x (head1 (Jvm.Cond.code x code maxLocals ret :: ws) room_1) (fun a U => a = #[(.long q0), (.long q1), (.long q2), (.long q3), (.int p4)] ∧ Z.Warmed39 U.vm ∧ U.heap = h0) (fun _ _ _ _ _ => True) (fun _ U o U' => ∃ v L, o = .returned v ∧ Q0 Z q0 q1 q2 q3 p4 h0 n0 v U'.heap L ∧ FrameEnd U o U' L room_1.cells room_1.slots) := by
  refine MetFree.of_bodySF (plainFor_of_name pn_0) hisR ?_
  intro p e s m args below meth c s₁ Bd hml0 hP hK
  obtain ⟨rfl, hZ, hh⟩ := hP
  have hx := Bd.exec
  have hby := Bd.bytes
  have hml : c.maxLocals = 19 := hml0
  have hown : s.vm.findClass "com/example/barnacle/barnacle/BitArrayIncludePinLaw" = some m.cls := findClass_of_methodNamed Bd.named
  have hnm := (name_of_methodNamed Bd.named Bd.method).1
  have hlk : meth.locks = false := BodyLoose.notSynchronized Bd
  have X0 : Stand p l e room_1 s m #[(.long q0), (.long q1), (.long q2), (.long q3), (.int p4)] below meth c s₁ [] 0 0 := Stand.of_body Bd
  have e0 : s₁.heap = h0 := by rw [← hh, Bd.state]; rfl
  have N0 := Fr.nil n0
  show Run p e s below (Q0 Z q0 q1 q2 q3 p4 h0 n0) room_1.cells room_1.slots s₁ (entryFrame m #[(.long q0), (.long q1), (.long q2), (.long q3), (.int p4)] maxLocals)
  rw [ef_0]
  show Run _ _ _ _ _ _ _ s₁ (mkF m 0 #[.val (.long q0), .second, .val (.long q1), .second, .val (.long q2), .second, .val (.long q3), .second, .val (.int p4), .unset, .unset, .unset, .unset, .unset, .unset, .unset, .unset, .unset, .unset] [])
  refine go (T' := s₁) (f' := (mkF m 1 #[.val (.long q0), .second, .val (.long q1), .second, .val (.long q2), .second, .val (.long q3), .second, .val (.int p4), .unset, .unset, .unset, .unset, .unset, .unset, .unset, .unset, .unset, .unset] [(.int (2 : Int32))])) (by intro t k; exact XS.iconst X0.here hx rfl (hb hby at_0) k) ?_
  show Run _ _ _ _ _ _ _ s₁ (mkF m 1 #[.val (.long q0), .second, .val (.long q1), .second, .val (.long q2), .second, .val (.long q3), .second, .val (.int p4), .unset, .unset, .unset, .unset, .unset, .unset, .unset, .unset, .unset, .unset] [(.int (2 : Int32))])
  obtain ⟨T1, h1, kA1, X1, e1, E1, A1, EX1, st1⟩ := newPE X0 hx hZ (hw _ (List.mem_of_getElem? (i := 0) rfl)) e0 (g := (mkF m 1 #[.val (.long q0), .second, .val (.long q1), .second, .val (.long q2), .second, .val (.long q3), .second, .val (.int p4), .unset, .unset, .unset, .unset, .unset, .unset, .unset, .unset, .unset, .unset] [(.int (2 : Int32))])) rfl (hb hby at_1) rfl (by decide) (cap := 2) (by decide) (by decide) (by decide) (by decide) (ad := "[J") (by decide)
  obtain ⟨b1, g1⟩ : ∃ z, z = h0.size := ⟨_, rfl⟩
  rw [← g1] at A1 EX1 st1
  have ge_b1 : n0 ≤ b1 := Nat.le_trans Z0 (Nat.le_of_eq g1.symm)
  have K1 : Keep h0 h1 [] := (Keep.refl _ _).ext E1
  have Z1 : n0 ≤ h1.size := Nat.le_trans Z0 K1.1
  have V1 : Ary Z h1 b1 .long [(.long (0 : Int64)), (.long (0 : Int64))] := Ary.new A1
  refine go st1 ?_
  show Run _ _ _ _ _ _ _ T1 (mkF m 3 #[.val (.long q0), .second, .val (.long q1), .second, .val (.long q2), .second, .val (.long q3), .second, .val (.int p4), .unset, .unset, .unset, .unset, .unset, .unset, .unset, .unset, .unset, .unset] [(.ref b1)])
  refine go (T' := T1) (f' := (mkF m 4 #[.val (.long q0), .second, .val (.long q1), .second, .val (.long q2), .second, .val (.long q3), .second, .val (.int p4), .unset, .unset, .unset, .unset, .unset, .unset, .unset, .unset, .unset, .unset] [(.ref b1), (.ref b1)])) (by intro t k; exact XS.dup X1.here hx rfl (hb hby at_3) rfl rfl k) ?_
  show Run _ _ _ _ _ _ _ T1 (mkF m 4 #[.val (.long q0), .second, .val (.long q1), .second, .val (.long q2), .second, .val (.long q3), .second, .val (.int p4), .unset, .unset, .unset, .unset, .unset, .unset, .unset, .unset, .unset, .unset] [(.ref b1), (.ref b1)])
  refine go (T' := T1) (f' := (mkF m 5 #[.val (.long q0), .second, .val (.long q1), .second, .val (.long q2), .second, .val (.long q3), .second, .val (.int p4), .unset, .unset, .unset, .unset, .unset, .unset, .unset, .unset, .unset, .unset] [(.int (0 : Int32)), (.ref b1), (.ref b1)])) (by intro t k; exact XS.iconst X1.here hx rfl (hb hby at_4) k) ?_
  show Run _ _ _ _ _ _ _ T1 (mkF m 5 #[.val (.long q0), .second, .val (.long q1), .second, .val (.long q2), .second, .val (.long q3), .second, .val (.int p4), .unset, .unset, .unset, .unset, .unset, .unset, .unset, .unset, .unset, .unset] [(.int (0 : Int32)), (.ref b1), (.ref b1)])
  refine go (T' := T1) (f' := (mkF m 6 #[.val (.long q0), .second, .val (.long q1), .second, .val (.long q2), .second, .val (.long q3), .second, .val (.int p4), .unset, .unset, .unset, .unset, .unset, .unset, .unset, .unset, .unset, .unset] [(.long q0), (.int (0 : Int32)), (.ref b1), (.ref b1)])) (by intro t k; exact XS.lloadN X1.here hx rfl (hb hby at_5) rfl k) ?_
  show Run _ _ _ _ _ _ _ T1 (mkF m 6 #[.val (.long q0), .second, .val (.long q1), .second, .val (.long q2), .second, .val (.long q3), .second, .val (.int p4), .unset, .unset, .unset, .unset, .unset, .unset, .unset, .unset, .unset, .unset] [(.long q0), (.int (0 : Int32)), (.ref b1), (.ref b1)])
  obtain ⟨cl2, Ar2, hin2⟩ := Ary.st (j := (0 : Int32)) V1 (by decide) (by show (0 : Int32).toNatClampNeg < 2; decide)
  obtain ⟨T2, h2, X2, e2, W2, st2⟩ := stJ X1 hx hZ e1 Ar2 (j := (0 : Int32)) hin2 (g := (mkF m 6 #[.val (.long q0), .second, .val (.long q1), .second, .val (.long q2), .second, .val (.long q3), .second, .val (.int p4), .unset, .unset, .unset, .unset, .unset, .unset, .unset, .unset, .unset, .unset] [(.long q0), (.int (0 : Int32)), (.ref b1), (.ref b1)])) rfl rfl (hb hby at_6)
  have K2 : Keep h1 h2 [b1] := Keep.of_wr W2
  have V2 : Ary Z h2 b1 .long [(.long q0), (.long (0 : Int64))] := Ary.set V1 W2 rfl
  have N2 := Fr.snoc X2 N0 ge_b1
  have E2_b1 : Exa Z h2 b1 "[J" := EX1.keep K2
  have Z2 : n0 ≤ h2.size := Nat.le_trans Z1 K2.1
  refine go st2 ?_
  show Run _ _ _ _ _ _ _ T2 (mkF m 7 #[.val (.long q0), .second, .val (.long q1), .second, .val (.long q2), .second, .val (.long q3), .second, .val (.int p4), .unset, .unset, .unset, .unset, .unset, .unset, .unset, .unset, .unset, .unset] [(.ref b1)])
  refine go (T' := T2) (f' := (mkF m 8 #[.val (.long q0), .second, .val (.long q1), .second, .val (.long q2), .second, .val (.long q3), .second, .val (.int p4), .unset, .unset, .unset, .unset, .unset, .unset, .unset, .unset, .unset, .unset] [(.ref b1), (.ref b1)])) (by intro t k; exact XS.dup X2.here hx rfl (hb hby at_7) rfl rfl k) ?_
  show Run _ _ _ _ _ _ _ T2 (mkF m 8 #[.val (.long q0), .second, .val (.long q1), .second, .val (.long q2), .second, .val (.long q3), .second, .val (.int p4), .unset, .unset, .unset, .unset, .unset, .unset, .unset, .unset, .unset, .unset] [(.ref b1), (.ref b1)])
  refine go (T' := T2) (f' := (mkF m 9 #[.val (.long q0), .second, .val (.long q1), .second, .val (.long q2), .second, .val (.long q3), .second, .val (.int p4), .unset, .unset, .unset, .unset, .unset, .unset, .unset, .unset, .unset, .unset] [(.int (1 : Int32)), (.ref b1), (.ref b1)])) (by intro t k; exact XS.iconst X2.here hx rfl (hb hby at_8) k) ?_
  show Run _ _ _ _ _ _ _ T2 (mkF m 9 #[.val (.long q0), .second, .val (.long q1), .second, .val (.long q2), .second, .val (.long q3), .second, .val (.int p4), .unset, .unset, .unset, .unset, .unset, .unset, .unset, .unset, .unset, .unset] [(.int (1 : Int32)), (.ref b1), (.ref b1)])
  refine go (T' := T2) (f' := (mkF m 10 #[.val (.long q0), .second, .val (.long q1), .second, .val (.long q2), .second, .val (.long q3), .second, .val (.int p4), .unset, .unset, .unset, .unset, .unset, .unset, .unset, .unset, .unset, .unset] [(.long q1), (.int (1 : Int32)), (.ref b1), (.ref b1)])) (by intro t k; exact XS.lloadN X2.here hx rfl (hb hby at_9) rfl k) ?_
  show Run _ _ _ _ _ _ _ T2 (mkF m 10 #[.val (.long q0), .second, .val (.long q1), .second, .val (.long q2), .second, .val (.long q3), .second, .val (.int p4), .unset, .unset, .unset, .unset, .unset, .unset, .unset, .unset, .unset, .unset] [(.long q1), (.int (1 : Int32)), (.ref b1), (.ref b1)])
  obtain ⟨cl3, Ar3, hin3⟩ := Ary.st (j := (1 : Int32)) V2 (by decide) (by show (1 : Int32).toNatClampNeg < 2; decide)
  obtain ⟨T3, h3, X3, e3, W3, st3⟩ := stJ X2 hx hZ e2 Ar3 (j := (1 : Int32)) hin3 (g := (mkF m 10 #[.val (.long q0), .second, .val (.long q1), .second, .val (.long q2), .second, .val (.long q3), .second, .val (.int p4), .unset, .unset, .unset, .unset, .unset, .unset, .unset, .unset, .unset, .unset] [(.long q1), (.int (1 : Int32)), (.ref b1), (.ref b1)])) rfl rfl (hb hby at_10)
  have K3 : Keep h2 h3 [b1] := Keep.of_wr W3
  have V3 : Ary Z h3 b1 .long [(.long q0), (.long q1)] := Ary.set V2 W3 rfl
  have N3 := Fr.snoc X3 N2 ge_b1
  have E3_b1 : Exa Z h3 b1 "[J" := E2_b1.keep K3
  have Z3 : n0 ≤ h3.size := Nat.le_trans Z2 K3.1
  refine go st3 ?_
  show Run _ _ _ _ _ _ _ T3 (mkF m 11 #[.val (.long q0), .second, .val (.long q1), .second, .val (.long q2), .second, .val (.long q3), .second, .val (.int p4), .unset, .unset, .unset, .unset, .unset, .unset, .unset, .unset, .unset, .unset] [(.ref b1)])
  refine go (T' := T3) (f' := (mkF m 13 #[.val (.long q0), .second, .val (.long q1), .second, .val (.long q2), .second, .val (.long q3), .second, .val (.int p4), .val (.ref b1), .unset, .unset, .unset, .unset, .unset, .unset, .unset, .unset, .unset] [])) (by intro t k; exact XS.astore X3.here hx rfl (hb hby at_11) rfl rfl (l' := #[.val (.long q0), .second, .val (.long q1), .second, .val (.long q2), .second, .val (.long q3), .second, .val (.int p4), .val (.ref b1), .unset, .unset, .unset, .unset, .unset, .unset, .unset, .unset, .unset]) rfl k) ?_
  show Run _ _ _ _ _ _ _ T3 (mkF m 13 #[.val (.long q0), .second, .val (.long q1), .second, .val (.long q2), .second, .val (.long q3), .second, .val (.int p4), .val (.ref b1), .unset, .unset, .unset, .unset, .unset, .unset, .unset, .unset, .unset] [])
  refine go (T' := T3) (f' := (mkF m 14 #[.val (.long q0), .second, .val (.long q1), .second, .val (.long q2), .second, .val (.long q3), .second, .val (.int p4), .val (.ref b1), .unset, .unset, .unset, .unset, .unset, .unset, .unset, .unset, .unset] [(.int (2 : Int32))])) (by intro t k; exact XS.iconst X3.here hx rfl (hb hby at_13) k) ?_
  show Run _ _ _ _ _ _ _ T3 (mkF m 14 #[.val (.long q0), .second, .val (.long q1), .second, .val (.long q2), .second, .val (.long q3), .second, .val (.int p4), .val (.ref b1), .unset, .unset, .unset, .unset, .unset, .unset, .unset, .unset, .unset] [(.int (2 : Int32))])
  obtain ⟨T4, h4, kA4, X4, e4, E4, A4, EX4, st4⟩ := newPE X3 hx hZ (hw _ (List.mem_of_getElem? (i := 0) rfl)) e3 (g := (mkF m 14 #[.val (.long q0), .second, .val (.long q1), .second, .val (.long q2), .second, .val (.long q3), .second, .val (.int p4), .val (.ref b1), .unset, .unset, .unset, .unset, .unset, .unset, .unset, .unset, .unset] [(.int (2 : Int32))])) rfl (hb hby at_14) rfl (by decide) (cap := 2) (by decide) (by decide) (by decide) (by decide) (ad := "[J") (by decide)
  obtain ⟨b4, g4⟩ : ∃ z, z = h3.size := ⟨_, rfl⟩
  rw [← g4] at A4 EX4 st4
  have ne_b1_b4 : b1 ≠ b4 := Nat.ne_of_lt (Nat.lt_of_lt_of_eq E3_b1.lt g4.symm)
  have ge_b4 : n0 ≤ b4 := Nat.le_trans Z3 (Nat.le_of_eq g4.symm)
  have K4 : Keep h3 h4 [] := (Keep.refl _ _).ext E4
  have E4_b1 : Exa Z h4 b1 "[J" := E3_b1.keep K4
  have A4_b1 : Ary Z h4 b1 .long [(.long q0), (.long q1)] := V3.keep K4 nin0
  have Z4 : n0 ≤ h4.size := Nat.le_trans Z3 K4.1
  have V4 : Ary Z h4 b4 .long [(.long (0 : Int64)), (.long (0 : Int64))] := Ary.new A4
  refine go st4 ?_
  show Run _ _ _ _ _ _ _ T4 (mkF m 16 #[.val (.long q0), .second, .val (.long q1), .second, .val (.long q2), .second, .val (.long q3), .second, .val (.int p4), .val (.ref b1), .unset, .unset, .unset, .unset, .unset, .unset, .unset, .unset, .unset] [(.ref b4)])
  refine go (T' := T4) (f' := (mkF m 17 #[.val (.long q0), .second, .val (.long q1), .second, .val (.long q2), .second, .val (.long q3), .second, .val (.int p4), .val (.ref b1), .unset, .unset, .unset, .unset, .unset, .unset, .unset, .unset, .unset] [(.ref b4), (.ref b4)])) (by intro t k; exact XS.dup X4.here hx rfl (hb hby at_16) rfl rfl k) ?_
  show Run _ _ _ _ _ _ _ T4 (mkF m 17 #[.val (.long q0), .second, .val (.long q1), .second, .val (.long q2), .second, .val (.long q3), .second, .val (.int p4), .val (.ref b1), .unset, .unset, .unset, .unset, .unset, .unset, .unset, .unset, .unset] [(.ref b4), (.ref b4)])
  refine go (T' := T4) (f' := (mkF m 18 #[.val (.long q0), .second, .val (.long q1), .second, .val (.long q2), .second, .val (.long q3), .second, .val (.int p4), .val (.ref b1), .unset, .unset, .unset, .unset, .unset, .unset, .unset, .unset, .unset] [(.int (0 : Int32)), (.ref b4), (.ref b4)])) (by intro t k; exact XS.iconst X4.here hx rfl (hb hby at_17) k) ?_
  show Run _ _ _ _ _ _ _ T4 (mkF m 18 #[.val (.long q0), .second, .val (.long q1), .second, .val (.long q2), .second, .val (.long q3), .second, .val (.int p4), .val (.ref b1), .unset, .unset, .unset, .unset, .unset, .unset, .unset, .unset, .unset] [(.int (0 : Int32)), (.ref b4), (.ref b4)])
  refine go (T' := T4) (f' := (mkF m 20 #[.val (.long q0), .second, .val (.long q1), .second, .val (.long q2), .second, .val (.long q3), .second, .val (.int p4), .val (.ref b1), .unset, .unset, .unset, .unset, .unset, .unset, .unset, .unset, .unset] [(.long q2), (.int (0 : Int32)), (.ref b4), (.ref b4)])) (by intro t k; exact XS.lload X4.here hx rfl (hb hby at_18) rfl k) ?_
  show Run _ _ _ _ _ _ _ T4 (mkF m 20 #[.val (.long q0), .second, .val (.long q1), .second, .val (.long q2), .second, .val (.long q3), .second, .val (.int p4), .val (.ref b1), .unset, .unset, .unset, .unset, .unset, .unset, .unset, .unset, .unset] [(.long q2), (.int (0 : Int32)), (.ref b4), (.ref b4)])
  obtain ⟨cl5, Ar5, hin5⟩ := Ary.st (j := (0 : Int32)) V4 (by decide) (by show (0 : Int32).toNatClampNeg < 2; decide)
  obtain ⟨T5, h5, X5, e5, W5, st5⟩ := stJ X4 hx hZ e4 Ar5 (j := (0 : Int32)) hin5 (g := (mkF m 20 #[.val (.long q0), .second, .val (.long q1), .second, .val (.long q2), .second, .val (.long q3), .second, .val (.int p4), .val (.ref b1), .unset, .unset, .unset, .unset, .unset, .unset, .unset, .unset, .unset] [(.long q2), (.int (0 : Int32)), (.ref b4), (.ref b4)])) rfl rfl (hb hby at_20)
  have K5 : Keep h4 h5 [b4] := Keep.of_wr W5
  have V5 : Ary Z h5 b4 .long [(.long q2), (.long (0 : Int64))] := Ary.set V4 W5 rfl
  have N5 := Fr.snoc X5 N3 ge_b4
  have E5_b1 : Exa Z h5 b1 "[J" := E4_b1.keep K5
  have E5_b4 : Exa Z h5 b4 "[J" := EX4.keep K5
  have A5_b1 : Ary Z h5 b1 .long [(.long q0), (.long q1)] := A4_b1.keep K5 (ninS ne_b1_b4 nin0)
  have Z5 : n0 ≤ h5.size := Nat.le_trans Z4 K5.1
  refine go st5 ?_
  show Run _ _ _ _ _ _ _ T5 (mkF m 21 #[.val (.long q0), .second, .val (.long q1), .second, .val (.long q2), .second, .val (.long q3), .second, .val (.int p4), .val (.ref b1), .unset, .unset, .unset, .unset, .unset, .unset, .unset, .unset, .unset] [(.ref b4)])
  refine go (T' := T5) (f' := (mkF m 22 #[.val (.long q0), .second, .val (.long q1), .second, .val (.long q2), .second, .val (.long q3), .second, .val (.int p4), .val (.ref b1), .unset, .unset, .unset, .unset, .unset, .unset, .unset, .unset, .unset] [(.ref b4), (.ref b4)])) (by intro t k; exact XS.dup X5.here hx rfl (hb hby at_21) rfl rfl k) ?_
  show Run _ _ _ _ _ _ _ T5 (mkF m 22 #[.val (.long q0), .second, .val (.long q1), .second, .val (.long q2), .second, .val (.long q3), .second, .val (.int p4), .val (.ref b1), .unset, .unset, .unset, .unset, .unset, .unset, .unset, .unset, .unset] [(.ref b4), (.ref b4)])
  refine go (T' := T5) (f' := (mkF m 23 #[.val (.long q0), .second, .val (.long q1), .second, .val (.long q2), .second, .val (.long q3), .second, .val (.int p4), .val (.ref b1), .unset, .unset, .unset, .unset, .unset, .unset, .unset, .unset, .unset] [(.int (1 : Int32)), (.ref b4), (.ref b4)])) (by intro t k; exact XS.iconst X5.here hx rfl (hb hby at_22) k) ?_
  show Run _ _ _ _ _ _ _ T5 (mkF m 23 #[.val (.long q0), .second, .val (.long q1), .second, .val (.long q2), .second, .val (.long q3), .second, .val (.int p4), .val (.ref b1), .unset, .unset, .unset, .unset, .unset, .unset, .unset, .unset, .unset] [(.int (1 : Int32)), (.ref b4), (.ref b4)])
  refine go (T' := T5) (f' := (mkF m 25 #[.val (.long q0), .second, .val (.long q1), .second, .val (.long q2), .second, .val (.long q3), .second, .val (.int p4), .val (.ref b1), .unset, .unset, .unset, .unset, .unset, .unset, .unset, .unset, .unset] [(.long q3), (.int (1 : Int32)), (.ref b4), (.ref b4)])) (by intro t k; exact XS.lload X5.here hx rfl (hb hby at_23) rfl k) ?_
  show Run _ _ _ _ _ _ _ T5 (mkF m 25 #[.val (.long q0), .second, .val (.long q1), .second, .val (.long q2), .second, .val (.long q3), .second, .val (.int p4), .val (.ref b1), .unset, .unset, .unset, .unset, .unset, .unset, .unset, .unset, .unset] [(.long q3), (.int (1 : Int32)), (.ref b4), (.ref b4)])
  obtain ⟨cl6, Ar6, hin6⟩ := Ary.st (j := (1 : Int32)) V5 (by decide) (by show (1 : Int32).toNatClampNeg < 2; decide)
  obtain ⟨T6, h6, X6, e6, W6, st6⟩ := stJ X5 hx hZ e5 Ar6 (j := (1 : Int32)) hin6 (g := (mkF m 25 #[.val (.long q0), .second, .val (.long q1), .second, .val (.long q2), .second, .val (.long q3), .second, .val (.int p4), .val (.ref b1), .unset, .unset, .unset, .unset, .unset, .unset, .unset, .unset, .unset] [(.long q3), (.int (1 : Int32)), (.ref b4), (.ref b4)])) rfl rfl (hb hby at_25)
  have K6 : Keep h5 h6 [b4] := Keep.of_wr W6
  have V6 : Ary Z h6 b4 .long [(.long q2), (.long q3)] := Ary.set V5 W6 rfl
  have N6 := Fr.snoc X6 N5 ge_b4
  have E6_b1 : Exa Z h6 b1 "[J" := E5_b1.keep K6
  have E6_b4 : Exa Z h6 b4 "[J" := E5_b4.keep K6
  have A6_b1 : Ary Z h6 b1 .long [(.long q0), (.long q1)] := A5_b1.keep K6 (ninS ne_b1_b4 nin0)
  have Z6 : n0 ≤ h6.size := Nat.le_trans Z5 K6.1
  refine go st6 ?_
  show Run _ _ _ _ _ _ _ T6 (mkF m 26 #[.val (.long q0), .second, .val (.long q1), .second, .val (.long q2), .second, .val (.long q3), .second, .val (.int p4), .val (.ref b1), .unset, .unset, .unset, .unset, .unset, .unset, .unset, .unset, .unset] [(.ref b4)])
  refine go (T' := T6) (f' := (mkF m 28 #[.val (.long q0), .second, .val (.long q1), .second, .val (.long q2), .second, .val (.long q3), .second, .val (.int p4), .val (.ref b1), .val (.ref b4), .unset, .unset, .unset, .unset, .unset, .unset, .unset, .unset] [])) (by intro t k; exact XS.astore X6.here hx rfl (hb hby at_26) rfl rfl (l' := #[.val (.long q0), .second, .val (.long q1), .second, .val (.long q2), .second, .val (.long q3), .second, .val (.int p4), .val (.ref b1), .val (.ref b4), .unset, .unset, .unset, .unset, .unset, .unset, .unset, .unset]) rfl k) ?_
  show Run _ _ _ _ _ _ _ T6 (mkF m 28 #[.val (.long q0), .second, .val (.long q1), .second, .val (.long q2), .second, .val (.long q3), .second, .val (.int p4), .val (.ref b1), .val (.ref b4), .unset, .unset, .unset, .unset, .unset, .unset, .unset, .unset] [])
  obtain ⟨T7, h7, X7, e7, E7, A7, D7, -, st7⟩ := newO X6 hx hZ hown (hw _ (List.mem_of_getElem? (i := 1) rfl)) (hw _ (List.mem_of_getElem? (i := 2) rfl)) (hw _ (List.mem_of_getElem? (i := 3) rfl)) e6 (g := (mkF m 28 #[.val (.long q0), .second, .val (.long q1), .second, .val (.long q2), .second, .val (.long q3), .second, .val (.int p4), .val (.ref b1), .val (.ref b4), .unset, .unset, .unset, .unset, .unset, .unset, .unset, .unset] [])) rfl (hb hby at_28) (by decide) (by decide)
  obtain ⟨b7, g7⟩ : ∃ z, z = h6.size := ⟨_, rfl⟩
  rw [← g7] at A7 D7 st7
  have ne_b1_b7 : b1 ≠ b7 := Nat.ne_of_lt (Nat.lt_of_lt_of_eq E6_b1.lt g7.symm)
  have ne_b4_b7 : b4 ≠ b7 := Nat.ne_of_lt (Nat.lt_of_lt_of_eq E6_b4.lt g7.symm)
  have ge_b7 : n0 ≤ b7 := Nat.le_trans Z6 (Nat.le_of_eq g7.symm)
  have K7 : Keep h6 h7 [] := (Keep.refl _ _).ext E7
  have E7_b1 : Exa Z h7 b1 "[J" := E6_b1.keep K7
  have E7_b4 : Exa Z h7 b4 "[J" := E6_b4.keep K7
  have A7_b1 : Ary Z h7 b1 .long [(.long q0), (.long q1)] := A6_b1.keep K7 nin0
  have A7_b4 : Ary Z h7 b4 .long [(.long q2), (.long q3)] := V6.keep K7 nin0
  have Z7 : n0 ≤ h7.size := Nat.le_trans Z6 K7.1
  have F7_b7_words : Fld Z h7 b7 "com/example/barnacle/barnacle/BitArray" "words" "[J" .null := D7 (Or.inr (hw _ (List.mem_of_getElem? (i := 11) rfl))) (ty := (.array .long)) (by decide)
  refine go st7 ?_
  show Run _ _ _ _ _ _ _ T7 (mkF m 31 #[.val (.long q0), .second, .val (.long q1), .second, .val (.long q2), .second, .val (.long q3), .second, .val (.int p4), .val (.ref b1), .val (.ref b4), .unset, .unset, .unset, .unset, .unset, .unset, .unset, .unset] [(.ref b7)])
  refine go (T' := T7) (f' := (mkF m 32 #[.val (.long q0), .second, .val (.long q1), .second, .val (.long q2), .second, .val (.long q3), .second, .val (.int p4), .val (.ref b1), .val (.ref b4), .unset, .unset, .unset, .unset, .unset, .unset, .unset, .unset] [(.ref b7), (.ref b7)])) (by intro t k; exact XS.dup X7.here hx rfl (hb hby at_31) rfl rfl k) ?_
  show Run _ _ _ _ _ _ _ T7 (mkF m 32 #[.val (.long q0), .second, .val (.long q1), .second, .val (.long q2), .second, .val (.long q3), .second, .val (.int p4), .val (.ref b1), .val (.ref b4), .unset, .unset, .unset, .unset, .unset, .unset, .unset, .unset] [(.ref b7), (.ref b7)])
  refine go (T' := T7) (f' := (mkF m 34 #[.val (.long q0), .second, .val (.long q1), .second, .val (.long q2), .second, .val (.long q3), .second, .val (.int p4), .val (.ref b1), .val (.ref b4), .unset, .unset, .unset, .unset, .unset, .unset, .unset, .unset] [(.ref b1), (.ref b7), (.ref b7)])) (by intro t k; exact XS.aload X7.here hx rfl (hb hby at_32) rfl rfl k) ?_
  show Run _ _ _ _ _ _ _ T7 (mkF m 34 #[.val (.long q0), .second, .val (.long q1), .second, .val (.long q2), .second, .val (.long q3), .second, .val (.int p4), .val (.ref b1), .val (.ref b4), .unset, .unset, .unset, .unset, .unset, .unset, .unset, .unset] [(.ref b1), (.ref b7), (.ref b7)])
  obtain ⟨_, _, ⟨T8, Lz8, kz8, nz8⟩, -, X8, ⟨Lc8, hQ8, lz8, yz8, zz8⟩, st8⟩ := X7.specialBack hx (y := (⟨"com/example/barnacle/barnacle/BitArray", "<init>", "([J)V"⟩ : MethodName)) rfl hown (mvT hZ (hw _ (List.mem_of_getElem? (i := 4) rfl))) (mvT hZ (hw _ (List.mem_of_getElem? (i := 5) rfl))) (mvT hZ (hw _ (List.mem_of_getElem? (i := 6) rfl))) (by decide) (backOf (W := 1) (rm1 l Z aw hw [] b7 b1  h7 n0 Z7 A7 F7_b7_words ge_b7) hZ (hw _ (List.mem_of_getElem? (i := 6) rfl)) (hw _ (List.mem_of_getElem? (i := 3) rfl)) (by decide) (by decide)) (g := (mkF m 34 #[.val (.long q0), .second, .val (.long q1), .second, .val (.long q2), .second, .val (.long q3), .second, .val (.int p4), .val (.ref b1), .val (.ref b4), .unset, .unset, .unset, .unset, .unset, .unset, .unset, .unset] [(.ref b1), (.ref b7), (.ref b7)])) rfl (by rw [hml]; rfl) (Steps.refl _) (a := b7) (argsL := [(.ref b1)]) (rest := [(.ref b7)]) (lenOf pd_285bJ29V rfl) rfl (by show 2 * 0 + _ ≤ _; exact Nat.le_of_eq rfl) (hb hby at_34) (fun _ _ => ⟨rfl, e7, (by decide : 3 + 0 ≤ _), (by decide : 7 + 0 ≤ _)⟩)
  dsimp only [Pt.U, Pt.locs, Pt.cells, Pt.slots] at X8 lz8 yz8 zz8 st8 hQ8
  subst lz8 yz8 zz8
  obtain ⟨rfl, N8q, K8, Fq8⟩ := hQ8
  have E8_b1 : Exa Z T8.heap b1 "[J" := E7_b1.keep K8
  have E8_b4 : Exa Z T8.heap b4 "[J" := E7_b4.keep K8
  have E8_b7 : Exa Z T8.heap b7 "com/example/barnacle/barnacle/BitArray" := A7.keep K8
  have A8_b1 : Ary Z T8.heap b1 .long [(.long q0), (.long q1)] := A7_b1.keep K8 (ninS ne_b1_b7 nin0)
  have A8_b4 : Ary Z T8.heap b4 .long [(.long q2), (.long q3)] := A7_b4.keep K8 (ninS ne_b4_b7 nin0)
  have Z8 : n0 ≤ T8.heap.size := Nat.le_trans Z7 K8.1
  have N8 := Fr.app N6 N8q
  refine go (fun _ k => st8.trans k) ?_
  show Run _ _ _ _ _ _ _ T8 (mkF m 37 #[.val (.long q0), .second, .val (.long q1), .second, .val (.long q2), .second, .val (.long q3), .second, .val (.int p4), .val (.ref b1), .val (.ref b4), .unset, .unset, .unset, .unset, .unset, .unset, .unset, .unset] [(.ref b7)])
  refine go (T' := T8) (f' := (mkF m 39 #[.val (.long q0), .second, .val (.long q1), .second, .val (.long q2), .second, .val (.long q3), .second, .val (.int p4), .val (.ref b1), .val (.ref b4), .val (.ref b7), .unset, .unset, .unset, .unset, .unset, .unset, .unset] [])) (by intro t k; exact XS.astore X8.here hx rfl (hb hby at_37) rfl rfl (l' := #[.val (.long q0), .second, .val (.long q1), .second, .val (.long q2), .second, .val (.long q3), .second, .val (.int p4), .val (.ref b1), .val (.ref b4), .val (.ref b7), .unset, .unset, .unset, .unset, .unset, .unset, .unset]) rfl k) ?_
  show Run _ _ _ _ _ _ _ T8 (mkF m 39 #[.val (.long q0), .second, .val (.long q1), .second, .val (.long q2), .second, .val (.long q3), .second, .val (.int p4), .val (.ref b1), .val (.ref b4), .val (.ref b7), .unset, .unset, .unset, .unset, .unset, .unset, .unset] [])
  refine go (T' := T8) (f' := (mkF m 41 #[.val (.long q0), .second, .val (.long q1), .second, .val (.long q2), .second, .val (.long q3), .second, .val (.int p4), .val (.ref b1), .val (.ref b4), .val (.ref b7), .unset, .unset, .unset, .unset, .unset, .unset, .unset] [(.int p4)])) (by intro t k; exact XS.iload X8.here hx rfl (hb hby at_39) rfl k) ?_
  show Run _ _ _ _ _ _ _ T8 (mkF m 41 #[.val (.long q0), .second, .val (.long q1), .second, .val (.long q2), .second, .val (.long q3), .second, .val (.int p4), .val (.ref b1), .val (.ref b4), .val (.ref b7), .unset, .unset, .unset, .unset, .unset, .unset, .unset] [(.int p4)])
  refine go (T' := T8) (f' := (mkF m 42 #[.val (.long q0), .second, .val (.long q1), .second, .val (.long q2), .second, .val (.long q3), .second, .val (.int p4), .val (.ref b1), .val (.ref b4), .val (.ref b7), .unset, .unset, .unset, .unset, .unset, .unset, .unset] [(.int (1 : Int32)), (.int p4)])) (by intro t k; exact XS.iconst X8.here hx rfl (hb hby at_41) k) ?_
  show Run _ _ _ _ _ _ _ T8 (mkF m 42 #[.val (.long q0), .second, .val (.long q1), .second, .val (.long q2), .second, .val (.long q3), .second, .val (.int p4), .val (.ref b1), .val (.ref b4), .val (.ref b7), .unset, .unset, .unset, .unset, .unset, .unset, .unset] [(.int (1 : Int32)), (.int p4)])
  refine go (T' := T8) (f' := (mkF m 43 #[.val (.long q0), .second, .val (.long q1), .second, .val (.long q2), .second, .val (.long q3), .second, .val (.int p4), .val (.ref b1), .val (.ref b4), .val (.ref b7), .unset, .unset, .unset, .unset, .unset, .unset, .unset] [(.int (p4 &&& (1 : Int32)))])) (by intro t k; exact XS.iand X8.here hx rfl (hb hby at_42) rfl k) ?_
  show Run _ _ _ _ _ _ _ T8 (mkF m 43 #[.val (.long q0), .second, .val (.long q1), .second, .val (.long q2), .second, .val (.long q3), .second, .val (.int p4), .val (.ref b1), .val (.ref b4), .val (.ref b7), .unset, .unset, .unset, .unset, .unset, .unset, .unset] [(.int (p4 &&& (1 : Int32)))])
  obtain ⟨z9, hz9⟩ : ∃ z : Int32, z = (if (p4 &&& (1 : Int32)) = (0 : Int32) then (0 : Int32) else (1 : Int32)) := ⟨_, rfl⟩
  have J43 : Run p e s below (Q0 Z q0 q1 q2 q3 p4 h0 n0) room_1.cells room_1.slots T8 (mkF m 51 #[.val (.long q0), .second, .val (.long q1), .second, .val (.long q2), .second, .val (.long q3), .second, .val (.int p4), .val (.ref b1), .val (.ref b4), .val (.ref b7), .unset, .unset, .unset, .unset, .unset, .unset, .unset] [(.int z9)]) := by
    rcases (own_01 hz9 : z9 = (0 : Int32) ∨ z9 = (1 : Int32)) with ez | ez
    · subst ez
      show Run _ _ _ _ _ _ _ T8 (mkF m 51 #[.val (.long q0), .second, .val (.long q1), .second, .val (.long q2), .second, .val (.long q3), .second, .val (.int p4), .val (.ref b1), .val (.ref b4), .val (.ref b7), .unset, .unset, .unset, .unset, .unset, .unset, .unset] [(.int (0 : Int32))])
      refine go (T' := T8) (f' := (mkF m 53 #[.val (.long q0), .second, .val (.long q1), .second, .val (.long q2), .second, .val (.long q3), .second, .val (.int p4), .val (.ref b1), .val (.ref b4), .val (.ref b7), .val (.int (0 : Int32)), .unset, .unset, .unset, .unset, .unset, .unset] [])) (by intro t k; exact XS.istore X8.here hx rfl (hb hby at_51) rfl (l' := #[.val (.long q0), .second, .val (.long q1), .second, .val (.long q2), .second, .val (.long q3), .second, .val (.int p4), .val (.ref b1), .val (.ref b4), .val (.ref b7), .val (.int (0 : Int32)), .unset, .unset, .unset, .unset, .unset, .unset]) rfl k) ?_
      show Run _ _ _ _ _ _ _ T8 (mkF m 53 #[.val (.long q0), .second, .val (.long q1), .second, .val (.long q2), .second, .val (.long q3), .second, .val (.int p4), .val (.ref b1), .val (.ref b4), .val (.ref b7), .val (.int (0 : Int32)), .unset, .unset, .unset, .unset, .unset, .unset] [])
      refine go (T' := T8) (f' := (mkF m 55 #[.val (.long q0), .second, .val (.long q1), .second, .val (.long q2), .second, .val (.long q3), .second, .val (.int p4), .val (.ref b1), .val (.ref b4), .val (.ref b7), .val (.int (0 : Int32)), .unset, .unset, .unset, .unset, .unset, .unset] [(.int (0 : Int32))])) (by intro t k; exact XS.iload X8.here hx rfl (hb hby at_53) rfl k) ?_
      show Run _ _ _ _ _ _ _ T8 (mkF m 55 #[.val (.long q0), .second, .val (.long q1), .second, .val (.long q2), .second, .val (.long q3), .second, .val (.int p4), .val (.ref b1), .val (.ref b4), .val (.ref b7), .val (.int (0 : Int32)), .unset, .unset, .unset, .unset, .unset, .unset] [(.int (0 : Int32))])
      refine go (T' := T8) (f' := (mkF m 63 #[.val (.long q0), .second, .val (.long q1), .second, .val (.long q2), .second, .val (.long q3), .second, .val (.int p4), .val (.ref b1), .val (.ref b4), .val (.ref b7), .val (.int (0 : Int32)), .unset, .unset, .unset, .unset, .unset, .unset] [])) (by intro t k; exact XS.ifYes X8.here hx rfl (pc0 := 55) (pc' := 63) rfl (hb hby at_55) rfl ((if0 _ _).trans (teq (rfl : (0 : Int32) = (0 : Int32))).1) (by decide) (by decide) k) ?_
      show Run _ _ _ _ _ _ _ T8 (mkF m 63 #[.val (.long q0), .second, .val (.long q1), .second, .val (.long q2), .second, .val (.long q3), .second, .val (.int p4), .val (.ref b1), .val (.ref b4), .val (.ref b7), .val (.int (0 : Int32)), .unset, .unset, .unset, .unset, .unset, .unset] [])
      obtain ⟨T10, h10, X10, e10, E10, A10, D10, -, st10⟩ := newO X8 hx hZ hown (hw _ (List.mem_of_getElem? (i := 1) rfl)) (hw _ (List.mem_of_getElem? (i := 2) rfl)) (hw _ (List.mem_of_getElem? (i := 3) rfl)) rfl (g := (mkF m 63 #[.val (.long q0), .second, .val (.long q1), .second, .val (.long q2), .second, .val (.long q3), .second, .val (.int p4), .val (.ref b1), .val (.ref b4), .val (.ref b7), .val (.int (0 : Int32)), .unset, .unset, .unset, .unset, .unset, .unset] [])) rfl (hb hby at_63) (by decide) (by decide)
      obtain ⟨b10, g10⟩ : ∃ z, z = T8.heap.size := ⟨_, rfl⟩
      rw [← g10] at A10 D10 st10
      have ne_b1_b10 : b1 ≠ b10 := Nat.ne_of_lt (Nat.lt_of_lt_of_eq E8_b1.lt g10.symm)
      have ne_b4_b10 : b4 ≠ b10 := Nat.ne_of_lt (Nat.lt_of_lt_of_eq E8_b4.lt g10.symm)
      have ne_b7_b10 : b7 ≠ b10 := Nat.ne_of_lt (Nat.lt_of_lt_of_eq E8_b7.lt g10.symm)
      have ge_b10 : n0 ≤ b10 := Nat.le_trans Z8 (Nat.le_of_eq g10.symm)
      have K10 : Keep T8.heap h10 [] := (Keep.refl _ _).ext E10
      have E10_b1 : Exa Z h10 b1 "[J" := E8_b1.keep K10
      have E10_b4 : Exa Z h10 b4 "[J" := E8_b4.keep K10
      have E10_b7 : Exa Z h10 b7 "com/example/barnacle/barnacle/BitArray" := E8_b7.keep K10
      have F10_b7_words : Fld Z h10 b7 "com/example/barnacle/barnacle/BitArray" "words" "[J" (.ref b1) := Fq8.keep K10 nin0
      have A10_b1 : Ary Z h10 b1 .long [(.long q0), (.long q1)] := A8_b1.keep K10 nin0
      have A10_b4 : Ary Z h10 b4 .long [(.long q2), (.long q3)] := A8_b4.keep K10 nin0
      have Z10 : n0 ≤ h10.size := Nat.le_trans Z8 K10.1
      have F10_b10_words : Fld Z h10 b10 "com/example/barnacle/barnacle/BitArray" "words" "[J" .null := D10 (Or.inr (hw _ (List.mem_of_getElem? (i := 11) rfl))) (ty := (.array .long)) (by decide)
      refine go st10 ?_
      show Run _ _ _ _ _ _ _ T10 (mkF m 66 #[.val (.long q0), .second, .val (.long q1), .second, .val (.long q2), .second, .val (.long q3), .second, .val (.int p4), .val (.ref b1), .val (.ref b4), .val (.ref b7), .val (.int (0 : Int32)), .unset, .unset, .unset, .unset, .unset, .unset] [(.ref b10)])
      refine go (T' := T10) (f' := (mkF m 67 #[.val (.long q0), .second, .val (.long q1), .second, .val (.long q2), .second, .val (.long q3), .second, .val (.int p4), .val (.ref b1), .val (.ref b4), .val (.ref b7), .val (.int (0 : Int32)), .unset, .unset, .unset, .unset, .unset, .unset] [(.ref b10), (.ref b10)])) (by intro t k; exact XS.dup X10.here hx rfl (hb hby at_66) rfl rfl k) ?_
      show Run _ _ _ _ _ _ _ T10 (mkF m 67 #[.val (.long q0), .second, .val (.long q1), .second, .val (.long q2), .second, .val (.long q3), .second, .val (.int p4), .val (.ref b1), .val (.ref b4), .val (.ref b7), .val (.int (0 : Int32)), .unset, .unset, .unset, .unset, .unset, .unset] [(.ref b10), (.ref b10)])
      refine go (T' := T10) (f' := (mkF m 69 #[.val (.long q0), .second, .val (.long q1), .second, .val (.long q2), .second, .val (.long q3), .second, .val (.int p4), .val (.ref b1), .val (.ref b4), .val (.ref b7), .val (.int (0 : Int32)), .unset, .unset, .unset, .unset, .unset, .unset] [(.ref b4), (.ref b10), (.ref b10)])) (by intro t k; exact XS.aload X10.here hx rfl (hb hby at_67) rfl rfl k) ?_
      show Run _ _ _ _ _ _ _ T10 (mkF m 69 #[.val (.long q0), .second, .val (.long q1), .second, .val (.long q2), .second, .val (.long q3), .second, .val (.int p4), .val (.ref b1), .val (.ref b4), .val (.ref b7), .val (.int (0 : Int32)), .unset, .unset, .unset, .unset, .unset, .unset] [(.ref b4), (.ref b10), (.ref b10)])
      obtain ⟨_, _, ⟨T11, Lz11, kz11, nz11⟩, -, X11, ⟨Lc11, hQ11, lz11, yz11, zz11⟩, st11⟩ := X10.specialBack hx (y := (⟨"com/example/barnacle/barnacle/BitArray", "<init>", "([J)V"⟩ : MethodName)) rfl hown (mvT hZ (hw _ (List.mem_of_getElem? (i := 4) rfl))) (mvT hZ (hw _ (List.mem_of_getElem? (i := 5) rfl))) (mvT hZ (hw _ (List.mem_of_getElem? (i := 6) rfl))) (by decide) (backOf (W := 1) (rm1 l Z aw hw [] b10 b4  h10 n0 Z10 A10 F10_b10_words ge_b10) hZ (hw _ (List.mem_of_getElem? (i := 6) rfl)) (hw _ (List.mem_of_getElem? (i := 3) rfl)) (by decide) (by decide)) (g := (mkF m 69 #[.val (.long q0), .second, .val (.long q1), .second, .val (.long q2), .second, .val (.long q3), .second, .val (.int p4), .val (.ref b1), .val (.ref b4), .val (.ref b7), .val (.int (0 : Int32)), .unset, .unset, .unset, .unset, .unset, .unset] [(.ref b4), (.ref b10), (.ref b10)])) rfl (by rw [hml]; rfl) (Steps.refl _) (a := b10) (argsL := [(.ref b4)]) (rest := [(.ref b10)]) (lenOf pd_285bJ29V rfl) rfl (by show 2 * 0 + _ ≤ _; exact Nat.le_of_eq rfl) (hb hby at_69) (fun _ _ => ⟨rfl, e10, (by decide : 4 + 0 ≤ _), (by decide : 10 + 0 ≤ _)⟩)
      dsimp only [Pt.U, Pt.locs, Pt.cells, Pt.slots] at X11 lz11 yz11 zz11 st11 hQ11
      subst lz11 yz11 zz11
      obtain ⟨rfl, N11q, K11, Fq11⟩ := hQ11
      have E11_b1 : Exa Z T11.heap b1 "[J" := E10_b1.keep K11
      have E11_b4 : Exa Z T11.heap b4 "[J" := E10_b4.keep K11
      have E11_b7 : Exa Z T11.heap b7 "com/example/barnacle/barnacle/BitArray" := E10_b7.keep K11
      have E11_b10 : Exa Z T11.heap b10 "com/example/barnacle/barnacle/BitArray" := A10.keep K11
      have F11_b7_words : Fld Z T11.heap b7 "com/example/barnacle/barnacle/BitArray" "words" "[J" (.ref b1) := F10_b7_words.keep K11 (ninS ne_b7_b10 nin0)
      have A11_b1 : Ary Z T11.heap b1 .long [(.long q0), (.long q1)] := A10_b1.keep K11 (ninS ne_b1_b10 nin0)
      have A11_b4 : Ary Z T11.heap b4 .long [(.long q2), (.long q3)] := A10_b4.keep K11 (ninS ne_b4_b10 nin0)
      have Z11 : n0 ≤ T11.heap.size := Nat.le_trans Z10 K11.1
      have N11 := Fr.app N8 N11q
      refine go (fun _ k => st11.trans k) ?_
      show Run _ _ _ _ _ _ _ T11 (mkF m 72 #[.val (.long q0), .second, .val (.long q1), .second, .val (.long q2), .second, .val (.long q3), .second, .val (.int p4), .val (.ref b1), .val (.ref b4), .val (.ref b7), .val (.int (0 : Int32)), .unset, .unset, .unset, .unset, .unset, .unset] [(.ref b10)])
      refine go (T' := T11) (f' := (mkF m 74 #[.val (.long q0), .second, .val (.long q1), .second, .val (.long q2), .second, .val (.long q3), .second, .val (.int p4), .val (.ref b1), .val (.ref b4), .val (.ref b7), .val (.int (0 : Int32)), .val (.ref b10), .unset, .unset, .unset, .unset, .unset] [])) (by intro t k; exact XS.astore X11.here hx rfl (hb hby at_72) rfl rfl (l' := #[.val (.long q0), .second, .val (.long q1), .second, .val (.long q2), .second, .val (.long q3), .second, .val (.int p4), .val (.ref b1), .val (.ref b4), .val (.ref b7), .val (.int (0 : Int32)), .val (.ref b10), .unset, .unset, .unset, .unset, .unset]) rfl k) ?_
      show Run _ _ _ _ _ _ _ T11 (mkF m 74 #[.val (.long q0), .second, .val (.long q1), .second, .val (.long q2), .second, .val (.long q3), .second, .val (.int p4), .val (.ref b1), .val (.ref b4), .val (.ref b7), .val (.int (0 : Int32)), .val (.ref b10), .unset, .unset, .unset, .unset, .unset] [])
      refine go (T' := T11) (f' := (mkF m 76 #[.val (.long q0), .second, .val (.long q1), .second, .val (.long q2), .second, .val (.long q3), .second, .val (.int p4), .val (.ref b1), .val (.ref b4), .val (.ref b7), .val (.int (0 : Int32)), .val (.ref b10), .unset, .unset, .unset, .unset, .unset] [(.int (0 : Int32))])) (by intro t k; exact XS.iload X11.here hx rfl (hb hby at_74) rfl k) ?_
      show Run _ _ _ _ _ _ _ T11 (mkF m 76 #[.val (.long q0), .second, .val (.long q1), .second, .val (.long q2), .second, .val (.long q3), .second, .val (.int p4), .val (.ref b1), .val (.ref b4), .val (.ref b7), .val (.int (0 : Int32)), .val (.ref b10), .unset, .unset, .unset, .unset, .unset] [(.int (0 : Int32))])
      refine go (T' := T11) (f' := (mkF m 83 #[.val (.long q0), .second, .val (.long q1), .second, .val (.long q2), .second, .val (.long q3), .second, .val (.int p4), .val (.ref b1), .val (.ref b4), .val (.ref b7), .val (.int (0 : Int32)), .val (.ref b10), .unset, .unset, .unset, .unset, .unset] [])) (by intro t k; exact XS.ifYes X11.here hx rfl (pc0 := 76) (pc' := 83) rfl (hb hby at_76) rfl ((if0 _ _).trans (teq (rfl : (0 : Int32) = (0 : Int32))).1) (by decide) (by decide) k) ?_
      show Run _ _ _ _ _ _ _ T11 (mkF m 83 #[.val (.long q0), .second, .val (.long q1), .second, .val (.long q2), .second, .val (.long q3), .second, .val (.int p4), .val (.ref b1), .val (.ref b4), .val (.ref b7), .val (.int (0 : Int32)), .val (.ref b10), .unset, .unset, .unset, .unset, .unset] [])
      refine go (T' := T11) (f' := (mkF m 84 #[.val (.long q0), .second, .val (.long q1), .second, .val (.long q2), .second, .val (.long q3), .second, .val (.int p4), .val (.ref b1), .val (.ref b4), .val (.ref b7), .val (.int (0 : Int32)), .val (.ref b10), .unset, .unset, .unset, .unset, .unset] [(.long q0)])) (by intro t k; exact XS.lloadN X11.here hx rfl (hb hby at_83) rfl k) ?_
      show Run _ _ _ _ _ _ _ T11 (mkF m 84 #[.val (.long q0), .second, .val (.long q1), .second, .val (.long q2), .second, .val (.long q3), .second, .val (.int p4), .val (.ref b1), .val (.ref b4), .val (.ref b7), .val (.int (0 : Int32)), .val (.ref b10), .unset, .unset, .unset, .unset, .unset] [(.long q0)])
      refine go (T' := T11) (f' := (mkF m 86 #[.val (.long q0), .second, .val (.long q1), .second, .val (.long q2), .second, .val (.long q3), .second, .val (.int p4), .val (.ref b1), .val (.ref b4), .val (.ref b7), .val (.int (0 : Int32)), .val (.ref b10), .unset, .unset, .unset, .unset, .unset] [(.long q2), (.long q0)])) (by intro t k; exact XS.lload X11.here hx rfl (hb hby at_84) rfl k) ?_
      show Run _ _ _ _ _ _ _ T11 (mkF m 86 #[.val (.long q0), .second, .val (.long q1), .second, .val (.long q2), .second, .val (.long q3), .second, .val (.int p4), .val (.ref b1), .val (.ref b4), .val (.ref b7), .val (.int (0 : Int32)), .val (.ref b10), .unset, .unset, .unset, .unset, .unset] [(.long q2), (.long q0)])
      refine go (T' := T11) (f' := (mkF m 87 #[.val (.long q0), .second, .val (.long q1), .second, .val (.long q2), .second, .val (.long q3), .second, .val (.int p4), .val (.ref b1), .val (.ref b4), .val (.ref b7), .val (.int (0 : Int32)), .val (.ref b10), .unset, .unset, .unset, .unset, .unset] [(.long (q0 ||| q2))])) (by intro t k; exact XS.lor X11.here hx rfl (hb hby at_86) rfl k) ?_
      show Run _ _ _ _ _ _ _ T11 (mkF m 87 #[.val (.long q0), .second, .val (.long q1), .second, .val (.long q2), .second, .val (.long q3), .second, .val (.int p4), .val (.ref b1), .val (.ref b4), .val (.ref b7), .val (.int (0 : Int32)), .val (.ref b10), .unset, .unset, .unset, .unset, .unset] [(.long (q0 ||| q2))])
      refine go (T' := T11) (f' := (mkF m 89 #[.val (.long q0), .second, .val (.long q1), .second, .val (.long q2), .second, .val (.long q3), .second, .val (.int p4), .val (.ref b1), .val (.ref b4), .val (.ref b7), .val (.int (0 : Int32)), .val (.ref b10), .val (.long (q0 ||| q2)), .second, .unset, .unset, .unset] [])) (by intro t k; exact XS.lstore X11.here hx rfl (hb hby at_87) rfl (l' := #[.val (.long q0), .second, .val (.long q1), .second, .val (.long q2), .second, .val (.long q3), .second, .val (.int p4), .val (.ref b1), .val (.ref b4), .val (.ref b7), .val (.int (0 : Int32)), .val (.ref b10), .val (.long (q0 ||| q2)), .second, .unset, .unset, .unset]) rfl k) ?_
      show Run _ _ _ _ _ _ _ T11 (mkF m 89 #[.val (.long q0), .second, .val (.long q1), .second, .val (.long q2), .second, .val (.long q3), .second, .val (.int p4), .val (.ref b1), .val (.ref b4), .val (.ref b7), .val (.int (0 : Int32)), .val (.ref b10), .val (.long (q0 ||| q2)), .second, .unset, .unset, .unset] [])
      refine go (T' := T11) (f' := (mkF m 91 #[.val (.long q0), .second, .val (.long q1), .second, .val (.long q2), .second, .val (.long q3), .second, .val (.int p4), .val (.ref b1), .val (.ref b4), .val (.ref b7), .val (.int (0 : Int32)), .val (.ref b10), .val (.long (q0 ||| q2)), .second, .unset, .unset, .unset] [(.int (0 : Int32))])) (by intro t k; exact XS.iload X11.here hx rfl (hb hby at_89) rfl k) ?_
      show Run _ _ _ _ _ _ _ T11 (mkF m 91 #[.val (.long q0), .second, .val (.long q1), .second, .val (.long q2), .second, .val (.long q3), .second, .val (.int p4), .val (.ref b1), .val (.ref b4), .val (.ref b7), .val (.int (0 : Int32)), .val (.ref b10), .val (.long (q0 ||| q2)), .second, .unset, .unset, .unset] [(.int (0 : Int32))])
      refine go (T' := T11) (f' := (mkF m 98 #[.val (.long q0), .second, .val (.long q1), .second, .val (.long q2), .second, .val (.long q3), .second, .val (.int p4), .val (.ref b1), .val (.ref b4), .val (.ref b7), .val (.int (0 : Int32)), .val (.ref b10), .val (.long (q0 ||| q2)), .second, .unset, .unset, .unset] [])) (by intro t k; exact XS.ifYes X11.here hx rfl (pc0 := 91) (pc' := 98) rfl (hb hby at_91) rfl ((if0 _ _).trans (teq (rfl : (0 : Int32) = (0 : Int32))).1) (by decide) (by decide) k) ?_
      show Run _ _ _ _ _ _ _ T11 (mkF m 98 #[.val (.long q0), .second, .val (.long q1), .second, .val (.long q2), .second, .val (.long q3), .second, .val (.int p4), .val (.ref b1), .val (.ref b4), .val (.ref b7), .val (.int (0 : Int32)), .val (.ref b10), .val (.long (q0 ||| q2)), .second, .unset, .unset, .unset] [])
      refine go (T' := T11) (f' := (mkF m 99 #[.val (.long q0), .second, .val (.long q1), .second, .val (.long q2), .second, .val (.long q3), .second, .val (.int p4), .val (.ref b1), .val (.ref b4), .val (.ref b7), .val (.int (0 : Int32)), .val (.ref b10), .val (.long (q0 ||| q2)), .second, .unset, .unset, .unset] [(.long q1)])) (by intro t k; exact XS.lloadN X11.here hx rfl (hb hby at_98) rfl k) ?_
      show Run _ _ _ _ _ _ _ T11 (mkF m 99 #[.val (.long q0), .second, .val (.long q1), .second, .val (.long q2), .second, .val (.long q3), .second, .val (.int p4), .val (.ref b1), .val (.ref b4), .val (.ref b7), .val (.int (0 : Int32)), .val (.ref b10), .val (.long (q0 ||| q2)), .second, .unset, .unset, .unset] [(.long q1)])
      refine go (T' := T11) (f' := (mkF m 101 #[.val (.long q0), .second, .val (.long q1), .second, .val (.long q2), .second, .val (.long q3), .second, .val (.int p4), .val (.ref b1), .val (.ref b4), .val (.ref b7), .val (.int (0 : Int32)), .val (.ref b10), .val (.long (q0 ||| q2)), .second, .unset, .unset, .unset] [(.long q3), (.long q1)])) (by intro t k; exact XS.lload X11.here hx rfl (hb hby at_99) rfl k) ?_
      show Run _ _ _ _ _ _ _ T11 (mkF m 101 #[.val (.long q0), .second, .val (.long q1), .second, .val (.long q2), .second, .val (.long q3), .second, .val (.int p4), .val (.ref b1), .val (.ref b4), .val (.ref b7), .val (.int (0 : Int32)), .val (.ref b10), .val (.long (q0 ||| q2)), .second, .unset, .unset, .unset] [(.long q3), (.long q1)])
      refine go (T' := T11) (f' := (mkF m 102 #[.val (.long q0), .second, .val (.long q1), .second, .val (.long q2), .second, .val (.long q3), .second, .val (.int p4), .val (.ref b1), .val (.ref b4), .val (.ref b7), .val (.int (0 : Int32)), .val (.ref b10), .val (.long (q0 ||| q2)), .second, .unset, .unset, .unset] [(.long (q1 ||| q3))])) (by intro t k; exact XS.lor X11.here hx rfl (hb hby at_101) rfl k) ?_
      show Run _ _ _ _ _ _ _ T11 (mkF m 102 #[.val (.long q0), .second, .val (.long q1), .second, .val (.long q2), .second, .val (.long q3), .second, .val (.int p4), .val (.ref b1), .val (.ref b4), .val (.ref b7), .val (.int (0 : Int32)), .val (.ref b10), .val (.long (q0 ||| q2)), .second, .unset, .unset, .unset] [(.long (q1 ||| q3))])
      refine go (T' := T11) (f' := (mkF m 104 #[.val (.long q0), .second, .val (.long q1), .second, .val (.long q2), .second, .val (.long q3), .second, .val (.int p4), .val (.ref b1), .val (.ref b4), .val (.ref b7), .val (.int (0 : Int32)), .val (.ref b10), .val (.long (q0 ||| q2)), .second, .val (.long (q1 ||| q3)), .second, .unset] [])) (by intro t k; exact XS.lstore X11.here hx rfl (hb hby at_102) rfl (l' := #[.val (.long q0), .second, .val (.long q1), .second, .val (.long q2), .second, .val (.long q3), .second, .val (.int p4), .val (.ref b1), .val (.ref b4), .val (.ref b7), .val (.int (0 : Int32)), .val (.ref b10), .val (.long (q0 ||| q2)), .second, .val (.long (q1 ||| q3)), .second, .unset]) rfl k) ?_
      show Run _ _ _ _ _ _ _ T11 (mkF m 104 #[.val (.long q0), .second, .val (.long q1), .second, .val (.long q2), .second, .val (.long q3), .second, .val (.int p4), .val (.ref b1), .val (.ref b4), .val (.ref b7), .val (.int (0 : Int32)), .val (.ref b10), .val (.long (q0 ||| q2)), .second, .val (.long (q1 ||| q3)), .second, .unset] [])
      refine go (T' := T11) (f' := (mkF m 106 #[.val (.long q0), .second, .val (.long q1), .second, .val (.long q2), .second, .val (.long q3), .second, .val (.int p4), .val (.ref b1), .val (.ref b4), .val (.ref b7), .val (.int (0 : Int32)), .val (.ref b10), .val (.long (q0 ||| q2)), .second, .val (.long (q1 ||| q3)), .second, .unset] [(.ref b7)])) (by intro t k; exact XS.aload X11.here hx rfl (hb hby at_104) rfl rfl k) ?_
      show Run _ _ _ _ _ _ _ T11 (mkF m 106 #[.val (.long q0), .second, .val (.long q1), .second, .val (.long q2), .second, .val (.long q3), .second, .val (.int p4), .val (.ref b1), .val (.ref b4), .val (.ref b7), .val (.int (0 : Int32)), .val (.ref b10), .val (.long (q0 ||| q2)), .second, .val (.long (q1 ||| q3)), .second, .unset] [(.ref b7)])
      refine go (T' := T11) (f' := (mkF m 108 #[.val (.long q0), .second, .val (.long q1), .second, .val (.long q2), .second, .val (.long q3), .second, .val (.int p4), .val (.ref b1), .val (.ref b4), .val (.ref b7), .val (.int (0 : Int32)), .val (.ref b10), .val (.long (q0 ||| q2)), .second, .val (.long (q1 ||| q3)), .second, .unset] [(.ref b10), (.ref b7)])) (by intro t k; exact XS.aload X11.here hx rfl (hb hby at_106) rfl rfl k) ?_
      show Run _ _ _ _ _ _ _ T11 (mkF m 108 #[.val (.long q0), .second, .val (.long q1), .second, .val (.long q2), .second, .val (.long q3), .second, .val (.int p4), .val (.ref b1), .val (.ref b4), .val (.ref b7), .val (.int (0 : Int32)), .val (.ref b10), .val (.long (q0 ||| q2)), .second, .val (.long (q1 ||| q3)), .second, .unset] [(.ref b10), (.ref b7)])
      obtain ⟨cq12, kq12, q12a, q12b, q12c⟩ := isOf hZ rfl E11_b7
      obtain ⟨_, _, ⟨T12, Lz12, kz12, nz12⟩, -, X12, ⟨Lc12, hQ12, lz12, yz12, zz12⟩, st12⟩ := X11.virtualBack hx (y := site_108) (z := site_108) hown (mvT hZ (hw _ (List.mem_of_getElem? (i := 12) rfl))) (mvT hZ (hw _ (List.mem_of_getElem? (i := 13) rfl))) (notFace_of_selects (args := #[]) (mvT hZ (hw _ (List.mem_of_getElem? (i := 15) rfl)))) (mvT hZ (hw _ (List.mem_of_getElem? (i := 15) rfl))) (mvT hZ (hw _ (List.mem_of_getElem? (i := 14) rfl))) (by decide) (backOf (W := 0) (rm3 l Z aw hw [] b7 b10 b1 b4 q0 q1 q2 q3 T11.heap n0 Z11 F11_b7_words Fq11 A11_b1 A11_b4 ge_b1 ne_b1_b4 (Ne.symm ne_b1_b7) (Ne.symm ne_b1_b10)) hZ (hw _ (List.mem_of_getElem? (i := 16) rfl)) (hw _ (List.mem_of_getElem? (i := 3) rfl)) (by decide) (by decide)) q12a q12c (g := (mkF m 108 #[.val (.long q0), .second, .val (.long q1), .second, .val (.long q2), .second, .val (.long q3), .second, .val (.int p4), .val (.ref b1), .val (.ref b4), .val (.ref b7), .val (.int (0 : Int32)), .val (.ref b10), .val (.long (q0 ||| q2)), .second, .val (.long (q1 ||| q3)), .second, .unset] [(.ref b10), (.ref b7)])) rfl (by rw [hml]; rfl) (Steps.refl _) (argsL := [(.ref b10)]) (rest := []) (lenOf pd_28Lcom2fexample2fbarnacle2fbarnacle2fBitArray3b29V rfl) rfl (by show 2 * 0 + _ ≤ _; exact Nat.le_of_eq rfl) (hb hby at_108) (fun _ _ => ⟨rfl, rfl, (by decide : 4 + 0 ≤ _), (by decide : 10 + 0 ≤ _)⟩)
      dsimp only [Pt.U, Pt.locs, Pt.cells, Pt.slots] at X12 lz12 yz12 zz12 st12 hQ12
      subst lz12 yz12 zz12
      obtain ⟨rfl, N12q, K12, Aq12⟩ := hQ12
      have E12_b1 : Exa Z T12.heap b1 "[J" := E11_b1.keep K12
      have E12_b4 : Exa Z T12.heap b4 "[J" := E11_b4.keep K12
      have E12_b7 : Exa Z T12.heap b7 "com/example/barnacle/barnacle/BitArray" := E11_b7.keep K12
      have E12_b10 : Exa Z T12.heap b10 "com/example/barnacle/barnacle/BitArray" := E11_b10.keep K12
      have F12_b7_words : Fld Z T12.heap b7 "com/example/barnacle/barnacle/BitArray" "words" "[J" (.ref b1) := F11_b7_words.keep K12 (ninS (Ne.symm ne_b1_b7) nin0)
      have F12_b10_words : Fld Z T12.heap b10 "com/example/barnacle/barnacle/BitArray" "words" "[J" (.ref b4) := Fq11.keep K12 (ninS (Ne.symm ne_b1_b10) nin0)
      have A12_b4 : Ary Z T12.heap b4 .long [(.long q2), (.long q3)] := A11_b4.keep K12 (ninS (Ne.symm ne_b1_b4) nin0)
      have Z12 : n0 ≤ T12.heap.size := Nat.le_trans Z11 K12.1
      have N12 := Fr.app N11 N12q
      refine go (fun _ k => st12.trans k) ?_
      show Run _ _ _ _ _ _ _ T12 (mkF m 111 #[.val (.long q0), .second, .val (.long q1), .second, .val (.long q2), .second, .val (.long q3), .second, .val (.int p4), .val (.ref b1), .val (.ref b4), .val (.ref b7), .val (.int (0 : Int32)), .val (.ref b10), .val (.long (q0 ||| q2)), .second, .val (.long (q1 ||| q3)), .second, .unset] [])
      refine go (T' := T12) (f' := (mkF m 113 #[.val (.long q0), .second, .val (.long q1), .second, .val (.long q2), .second, .val (.long q3), .second, .val (.int p4), .val (.ref b1), .val (.ref b4), .val (.ref b7), .val (.int (0 : Int32)), .val (.ref b10), .val (.long (q0 ||| q2)), .second, .val (.long (q1 ||| q3)), .second, .unset] [(.ref b7)])) (by intro t k; exact XS.aload X12.here hx rfl (hb hby at_111) rfl rfl k) ?_
      show Run _ _ _ _ _ _ _ T12 (mkF m 113 #[.val (.long q0), .second, .val (.long q1), .second, .val (.long q2), .second, .val (.long q3), .second, .val (.int p4), .val (.ref b1), .val (.ref b4), .val (.ref b7), .val (.int (0 : Int32)), .val (.ref b10), .val (.long (q0 ||| q2)), .second, .val (.long (q1 ||| q3)), .second, .unset] [(.ref b7)])
      refine go (T' := T12) (f' := (mkF m 114 #[.val (.long q0), .second, .val (.long q1), .second, .val (.long q2), .second, .val (.long q3), .second, .val (.int p4), .val (.ref b1), .val (.ref b4), .val (.ref b7), .val (.int (0 : Int32)), .val (.ref b10), .val (.long (q0 ||| q2)), .second, .val (.long (q1 ||| q3)), .second, .unset] [(.int (0 : Int32)), (.ref b7)])) (by intro t k; exact XS.iconst X12.here hx rfl (hb hby at_113) k) ?_
      show Run _ _ _ _ _ _ _ T12 (mkF m 114 #[.val (.long q0), .second, .val (.long q1), .second, .val (.long q2), .second, .val (.long q3), .second, .val (.int p4), .val (.ref b1), .val (.ref b4), .val (.ref b7), .val (.int (0 : Int32)), .val (.ref b10), .val (.long (q0 ||| q2)), .second, .val (.long (q1 ||| q3)), .second, .unset] [(.int (0 : Int32)), (.ref b7)])
      obtain ⟨cq13, kq13, q13a, q13b, q13c⟩ := isOf hZ rfl E12_b7
      obtain ⟨_, _, ⟨T13, Lz13, kz13, nz13⟩, -, X13, ⟨Lc13, hQ13, lz13, yz13, zz13⟩, st13⟩ := X12.virtualBack hx (y := (⟨"com/example/barnacle/barnacle/BitArray", "word", "(I)J"⟩ : MethodName)) (z := (⟨"com/example/barnacle/barnacle/BitArray", "word", "(I)J"⟩ : MethodName)) hown (mvT hZ (hw _ (List.mem_of_getElem? (i := 17) rfl))) (mvT hZ (hw _ (List.mem_of_getElem? (i := 18) rfl))) (notFace_of_selects (args := #[]) (mvT hZ (hw _ (List.mem_of_getElem? (i := 20) rfl)))) (mvT hZ (hw _ (List.mem_of_getElem? (i := 20) rfl))) (mvT hZ (hw _ (List.mem_of_getElem? (i := 19) rfl))) (by decide) (backOf (W := 0) (rm4 l Z aw hw [] b7 (0 : Int32) b1 [(.long (q0 ||| q2)), (.long (q1 ||| q3))] (q0 ||| q2) T12.heap n0 Z12 F12_b7_words Aq12 (by decide) rfl) hZ (hw _ (List.mem_of_getElem? (i := 21) rfl)) (hw _ (List.mem_of_getElem? (i := 3) rfl)) (by decide) (by decide)) q13a q13c (g := (mkF m 114 #[.val (.long q0), .second, .val (.long q1), .second, .val (.long q2), .second, .val (.long q3), .second, .val (.int p4), .val (.ref b1), .val (.ref b4), .val (.ref b7), .val (.int (0 : Int32)), .val (.ref b10), .val (.long (q0 ||| q2)), .second, .val (.long (q1 ||| q3)), .second, .unset] [(.int (0 : Int32)), (.ref b7)])) rfl (by rw [hml]; rfl) (Steps.refl _) (argsL := [(.int (0 : Int32))]) (rest := []) (lenOf pd_28I29J rfl) rfl (by show 2 * 0 + _ ≤ _; exact Nat.le_of_eq rfl) (hb hby at_114) (fun _ _ => ⟨rfl, rfl, (by decide : 4 + 0 ≤ _), (by decide : 10 + 0 ≤ _)⟩)
      dsimp only [Pt.U, Pt.locs, Pt.cells, Pt.slots] at X13 lz13 yz13 zz13 st13 hQ13
      subst lz13 yz13 zz13
      obtain ⟨rfl, N13q, e13⟩ := hQ13
      have N13 := Fr.app N12 N13q
      refine go (fun _ k => st13.trans k) ?_
      show Run _ _ _ _ _ _ _ T13 (mkF m 117 #[.val (.long q0), .second, .val (.long q1), .second, .val (.long q2), .second, .val (.long q3), .second, .val (.int p4), .val (.ref b1), .val (.ref b4), .val (.ref b7), .val (.int (0 : Int32)), .val (.ref b10), .val (.long (q0 ||| q2)), .second, .val (.long (q1 ||| q3)), .second, .unset] [(.long (q0 ||| q2))])
      refine go (T' := T13) (f' := (mkF m 119 #[.val (.long q0), .second, .val (.long q1), .second, .val (.long q2), .second, .val (.long q3), .second, .val (.int p4), .val (.ref b1), .val (.ref b4), .val (.ref b7), .val (.int (0 : Int32)), .val (.ref b10), .val (.long (q0 ||| q2)), .second, .val (.long (q1 ||| q3)), .second, .unset] [(.long (q0 ||| q2)), (.long (q0 ||| q2))])) (by intro t k; exact XS.lload X13.here hx rfl (hb hby at_117) rfl k) ?_
      show Run _ _ _ _ _ _ _ T13 (mkF m 119 #[.val (.long q0), .second, .val (.long q1), .second, .val (.long q2), .second, .val (.long q3), .second, .val (.int p4), .val (.ref b1), .val (.ref b4), .val (.ref b7), .val (.int (0 : Int32)), .val (.ref b10), .val (.long (q0 ||| q2)), .second, .val (.long (q1 ||| q3)), .second, .unset] [(.long (q0 ||| q2)), (.long (q0 ||| q2))])
      refine go (T' := T13) (f' := (mkF m 120 #[.val (.long q0), .second, .val (.long q1), .second, .val (.long q2), .second, .val (.long q3), .second, .val (.int p4), .val (.ref b1), .val (.ref b4), .val (.ref b7), .val (.int (0 : Int32)), .val (.ref b10), .val (.long (q0 ||| q2)), .second, .val (.long (q1 ||| q3)), .second, .unset] [(.int (lcmpW (q0 ||| q2) (q0 ||| q2)))])) (by intro t k; exact XS.lcmp X13.here hx rfl (hb hby at_119) rfl k) ?_
      show Run _ _ _ _ _ _ _ T13 (mkF m 120 #[.val (.long q0), .second, .val (.long q1), .second, .val (.long q2), .second, .val (.long q3), .second, .val (.int p4), .val (.ref b1), .val (.ref b4), .val (.ref b7), .val (.int (0 : Int32)), .val (.ref b10), .val (.long (q0 ||| q2)), .second, .val (.long (q1 ||| q3)), .second, .unset] [(.int (lcmpW (q0 ||| q2) (q0 ||| q2)))])
      refine go (T' := T13) (f' := (mkF m 123 #[.val (.long q0), .second, .val (.long q1), .second, .val (.long q2), .second, .val (.long q3), .second, .val (.int p4), .val (.ref b1), .val (.ref b4), .val (.ref b7), .val (.int (0 : Int32)), .val (.ref b10), .val (.long (q0 ||| q2)), .second, .val (.long (q1 ||| q3)), .second, .unset] [])) (by intro t k; exact XS.ifNo X13.here hx rfl (hb hby at_120) rfl ((if0 _ _).trans (teq ((lw_eq _ _).mpr (by first | rfl | exact Int64.or_self : (q0 ||| q2) = (q0 ||| q2)))).2) k) ?_
      show Run _ _ _ _ _ _ _ T13 (mkF m 123 #[.val (.long q0), .second, .val (.long q1), .second, .val (.long q2), .second, .val (.long q3), .second, .val (.int p4), .val (.ref b1), .val (.ref b4), .val (.ref b7), .val (.int (0 : Int32)), .val (.ref b10), .val (.long (q0 ||| q2)), .second, .val (.long (q1 ||| q3)), .second, .unset] [])
      refine go (T' := T13) (f' := (mkF m 125 #[.val (.long q0), .second, .val (.long q1), .second, .val (.long q2), .second, .val (.long q3), .second, .val (.int p4), .val (.ref b1), .val (.ref b4), .val (.ref b7), .val (.int (0 : Int32)), .val (.ref b10), .val (.long (q0 ||| q2)), .second, .val (.long (q1 ||| q3)), .second, .unset] [(.ref b7)])) (by intro t k; exact XS.aload X13.here hx rfl (hb hby at_123) rfl rfl k) ?_
      show Run _ _ _ _ _ _ _ T13 (mkF m 125 #[.val (.long q0), .second, .val (.long q1), .second, .val (.long q2), .second, .val (.long q3), .second, .val (.int p4), .val (.ref b1), .val (.ref b4), .val (.ref b7), .val (.int (0 : Int32)), .val (.ref b10), .val (.long (q0 ||| q2)), .second, .val (.long (q1 ||| q3)), .second, .unset] [(.ref b7)])
      refine go (T' := T13) (f' := (mkF m 126 #[.val (.long q0), .second, .val (.long q1), .second, .val (.long q2), .second, .val (.long q3), .second, .val (.int p4), .val (.ref b1), .val (.ref b4), .val (.ref b7), .val (.int (0 : Int32)), .val (.ref b10), .val (.long (q0 ||| q2)), .second, .val (.long (q1 ||| q3)), .second, .unset] [(.int (1 : Int32)), (.ref b7)])) (by intro t k; exact XS.iconst X13.here hx rfl (hb hby at_125) k) ?_
      show Run _ _ _ _ _ _ _ T13 (mkF m 126 #[.val (.long q0), .second, .val (.long q1), .second, .val (.long q2), .second, .val (.long q3), .second, .val (.int p4), .val (.ref b1), .val (.ref b4), .val (.ref b7), .val (.int (0 : Int32)), .val (.ref b10), .val (.long (q0 ||| q2)), .second, .val (.long (q1 ||| q3)), .second, .unset] [(.int (1 : Int32)), (.ref b7)])
      obtain ⟨cq14, kq14, q14a, q14b, q14c⟩ := isOf hZ e13 E12_b7
      obtain ⟨_, _, ⟨T14, Lz14, kz14, nz14⟩, -, X14, ⟨Lc14, hQ14, lz14, yz14, zz14⟩, st14⟩ := X13.virtualBack hx (y := (⟨"com/example/barnacle/barnacle/BitArray", "word", "(I)J"⟩ : MethodName)) (z := (⟨"com/example/barnacle/barnacle/BitArray", "word", "(I)J"⟩ : MethodName)) hown (mvT hZ (hw _ (List.mem_of_getElem? (i := 17) rfl))) (mvT hZ (hw _ (List.mem_of_getElem? (i := 18) rfl))) (notFace_of_selects (args := #[]) (mvT hZ (hw _ (List.mem_of_getElem? (i := 20) rfl)))) (mvT hZ (hw _ (List.mem_of_getElem? (i := 20) rfl))) (mvT hZ (hw _ (List.mem_of_getElem? (i := 19) rfl))) (by decide) (backOf (W := 0) (rm4 l Z aw hw [] b7 (1 : Int32) b1 [(.long (q0 ||| q2)), (.long (q1 ||| q3))] (q1 ||| q3) T12.heap n0 Z12 F12_b7_words Aq12 (by decide) rfl) hZ (hw _ (List.mem_of_getElem? (i := 21) rfl)) (hw _ (List.mem_of_getElem? (i := 3) rfl)) (by decide) (by decide)) q14a q14c (g := (mkF m 126 #[.val (.long q0), .second, .val (.long q1), .second, .val (.long q2), .second, .val (.long q3), .second, .val (.int p4), .val (.ref b1), .val (.ref b4), .val (.ref b7), .val (.int (0 : Int32)), .val (.ref b10), .val (.long (q0 ||| q2)), .second, .val (.long (q1 ||| q3)), .second, .unset] [(.int (1 : Int32)), (.ref b7)])) rfl (by rw [hml]; rfl) (Steps.refl _) (argsL := [(.int (1 : Int32))]) (rest := []) (lenOf pd_28I29J rfl) rfl (by show 2 * 0 + _ ≤ _; exact Nat.le_of_eq rfl) (hb hby at_126) (fun _ _ => ⟨rfl, e13, (by decide : 4 + 0 ≤ _), (by decide : 10 + 0 ≤ _)⟩)
      dsimp only [Pt.U, Pt.locs, Pt.cells, Pt.slots] at X14 lz14 yz14 zz14 st14 hQ14
      subst lz14 yz14 zz14
      obtain ⟨rfl, N14q, e14⟩ := hQ14
      have N14 := Fr.app N13 N14q
      refine go (fun _ k => st14.trans k) ?_
      show Run _ _ _ _ _ _ _ T14 (mkF m 129 #[.val (.long q0), .second, .val (.long q1), .second, .val (.long q2), .second, .val (.long q3), .second, .val (.int p4), .val (.ref b1), .val (.ref b4), .val (.ref b7), .val (.int (0 : Int32)), .val (.ref b10), .val (.long (q0 ||| q2)), .second, .val (.long (q1 ||| q3)), .second, .unset] [(.long (q1 ||| q3))])
      refine go (T' := T14) (f' := (mkF m 131 #[.val (.long q0), .second, .val (.long q1), .second, .val (.long q2), .second, .val (.long q3), .second, .val (.int p4), .val (.ref b1), .val (.ref b4), .val (.ref b7), .val (.int (0 : Int32)), .val (.ref b10), .val (.long (q0 ||| q2)), .second, .val (.long (q1 ||| q3)), .second, .unset] [(.long (q1 ||| q3)), (.long (q1 ||| q3))])) (by intro t k; exact XS.lload X14.here hx rfl (hb hby at_129) rfl k) ?_
      show Run _ _ _ _ _ _ _ T14 (mkF m 131 #[.val (.long q0), .second, .val (.long q1), .second, .val (.long q2), .second, .val (.long q3), .second, .val (.int p4), .val (.ref b1), .val (.ref b4), .val (.ref b7), .val (.int (0 : Int32)), .val (.ref b10), .val (.long (q0 ||| q2)), .second, .val (.long (q1 ||| q3)), .second, .unset] [(.long (q1 ||| q3)), (.long (q1 ||| q3))])
      refine go (T' := T14) (f' := (mkF m 132 #[.val (.long q0), .second, .val (.long q1), .second, .val (.long q2), .second, .val (.long q3), .second, .val (.int p4), .val (.ref b1), .val (.ref b4), .val (.ref b7), .val (.int (0 : Int32)), .val (.ref b10), .val (.long (q0 ||| q2)), .second, .val (.long (q1 ||| q3)), .second, .unset] [(.int (lcmpW (q1 ||| q3) (q1 ||| q3)))])) (by intro t k; exact XS.lcmp X14.here hx rfl (hb hby at_131) rfl k) ?_
      show Run _ _ _ _ _ _ _ T14 (mkF m 132 #[.val (.long q0), .second, .val (.long q1), .second, .val (.long q2), .second, .val (.long q3), .second, .val (.int p4), .val (.ref b1), .val (.ref b4), .val (.ref b7), .val (.int (0 : Int32)), .val (.ref b10), .val (.long (q0 ||| q2)), .second, .val (.long (q1 ||| q3)), .second, .unset] [(.int (lcmpW (q1 ||| q3) (q1 ||| q3)))])
      refine go (T' := T14) (f' := (mkF m 135 #[.val (.long q0), .second, .val (.long q1), .second, .val (.long q2), .second, .val (.long q3), .second, .val (.int p4), .val (.ref b1), .val (.ref b4), .val (.ref b7), .val (.int (0 : Int32)), .val (.ref b10), .val (.long (q0 ||| q2)), .second, .val (.long (q1 ||| q3)), .second, .unset] [])) (by intro t k; exact XS.ifNo X14.here hx rfl (hb hby at_132) rfl ((if0 _ _).trans (teq ((lw_eq _ _).mpr (by first | rfl | exact Int64.or_self : (q1 ||| q3) = (q1 ||| q3)))).2) k) ?_
      show Run _ _ _ _ _ _ _ T14 (mkF m 135 #[.val (.long q0), .second, .val (.long q1), .second, .val (.long q2), .second, .val (.long q3), .second, .val (.int p4), .val (.ref b1), .val (.ref b4), .val (.ref b7), .val (.int (0 : Int32)), .val (.ref b10), .val (.long (q0 ||| q2)), .second, .val (.long (q1 ||| q3)), .second, .unset] [])
      refine go (T' := T14) (f' := (mkF m 136 #[.val (.long q0), .second, .val (.long q1), .second, .val (.long q2), .second, .val (.long q3), .second, .val (.int p4), .val (.ref b1), .val (.ref b4), .val (.ref b7), .val (.int (0 : Int32)), .val (.ref b10), .val (.long (q0 ||| q2)), .second, .val (.long (q1 ||| q3)), .second, .unset] [(.int (1 : Int32))])) (by intro t k; exact XS.iconst X14.here hx rfl (hb hby at_135) k) ?_
      show Run _ _ _ _ _ _ _ T14 (mkF m 136 #[.val (.long q0), .second, .val (.long q1), .second, .val (.long q2), .second, .val (.long q3), .second, .val (.int p4), .val (.ref b1), .val (.ref b4), .val (.ref b7), .val (.int (0 : Int32)), .val (.ref b10), .val (.long (q0 ||| q2)), .second, .val (.long (q1 ||| q3)), .second, .unset] [(.int (1 : Int32))])
      refine go (T' := T14) (f' := (mkF m 140 #[.val (.long q0), .second, .val (.long q1), .second, .val (.long q2), .second, .val (.long q3), .second, .val (.int p4), .val (.ref b1), .val (.ref b4), .val (.ref b7), .val (.int (0 : Int32)), .val (.ref b10), .val (.long (q0 ||| q2)), .second, .val (.long (q1 ||| q3)), .second, .unset] [(.int (1 : Int32))])) (by intro t k; exact XS.goto X14.here hx rfl (pc0 := 136) (pc' := 140) rfl (hb hby at_136) (by decide) (by decide) k) ?_
      show Run _ _ _ _ _ _ _ T14 (mkF m 140 #[.val (.long q0), .second, .val (.long q1), .second, .val (.long q2), .second, .val (.long q3), .second, .val (.int p4), .val (.ref b1), .val (.ref b4), .val (.ref b7), .val (.int (0 : Int32)), .val (.ref b10), .val (.long (q0 ||| q2)), .second, .val (.long (q1 ||| q3)), .second, .unset] [(.int (1 : Int32))])
      refine go (T' := T14) (f' := (mkF m 142 #[.val (.long q0), .second, .val (.long q1), .second, .val (.long q2), .second, .val (.long q3), .second, .val (.int p4), .val (.ref b1), .val (.ref b4), .val (.ref b7), .val (.int (0 : Int32)), .val (.ref b10), .val (.long (q0 ||| q2)), .second, .val (.long (q1 ||| q3)), .second, .val (.int (1 : Int32))] [])) (by intro t k; exact XS.istore X14.here hx rfl (hb hby at_140) rfl (l' := #[.val (.long q0), .second, .val (.long q1), .second, .val (.long q2), .second, .val (.long q3), .second, .val (.int p4), .val (.ref b1), .val (.ref b4), .val (.ref b7), .val (.int (0 : Int32)), .val (.ref b10), .val (.long (q0 ||| q2)), .second, .val (.long (q1 ||| q3)), .second, .val (.int (1 : Int32))]) rfl k) ?_
      show Run _ _ _ _ _ _ _ T14 (mkF m 142 #[.val (.long q0), .second, .val (.long q1), .second, .val (.long q2), .second, .val (.long q3), .second, .val (.int p4), .val (.ref b1), .val (.ref b4), .val (.ref b7), .val (.int (0 : Int32)), .val (.ref b10), .val (.long (q0 ||| q2)), .second, .val (.long (q1 ||| q3)), .second, .val (.int (1 : Int32))] [])
      refine go (T' := T14) (f' := (mkF m 144 #[.val (.long q0), .second, .val (.long q1), .second, .val (.long q2), .second, .val (.long q3), .second, .val (.int p4), .val (.ref b1), .val (.ref b4), .val (.ref b7), .val (.int (0 : Int32)), .val (.ref b10), .val (.long (q0 ||| q2)), .second, .val (.long (q1 ||| q3)), .second, .val (.int (1 : Int32))] [(.int (0 : Int32))])) (by intro t k; exact XS.iload X14.here hx rfl (hb hby at_142) rfl k) ?_
      show Run _ _ _ _ _ _ _ T14 (mkF m 144 #[.val (.long q0), .second, .val (.long q1), .second, .val (.long q2), .second, .val (.long q3), .second, .val (.int p4), .val (.ref b1), .val (.ref b4), .val (.ref b7), .val (.int (0 : Int32)), .val (.ref b10), .val (.long (q0 ||| q2)), .second, .val (.long (q1 ||| q3)), .second, .val (.int (1 : Int32))] [(.int (0 : Int32))])
      refine go (T' := T14) (f' := (mkF m 147 #[.val (.long q0), .second, .val (.long q1), .second, .val (.long q2), .second, .val (.long q3), .second, .val (.int p4), .val (.ref b1), .val (.ref b4), .val (.ref b7), .val (.int (0 : Int32)), .val (.ref b10), .val (.long (q0 ||| q2)), .second, .val (.long (q1 ||| q3)), .second, .val (.int (1 : Int32))] [])) (by intro t k; exact XS.ifNo X14.here hx rfl (hb hby at_144) rfl ((if0 _ _).trans (teq (rfl : (0 : Int32) = (0 : Int32))).2) k) ?_
      show Run _ _ _ _ _ _ _ T14 (mkF m 147 #[.val (.long q0), .second, .val (.long q1), .second, .val (.long q2), .second, .val (.long q3), .second, .val (.int p4), .val (.ref b1), .val (.ref b4), .val (.ref b7), .val (.int (0 : Int32)), .val (.ref b10), .val (.long (q0 ||| q2)), .second, .val (.long (q1 ||| q3)), .second, .val (.int (1 : Int32))] [])
      refine go (T' := T14) (f' := (mkF m 149 #[.val (.long q0), .second, .val (.long q1), .second, .val (.long q2), .second, .val (.long q3), .second, .val (.int p4), .val (.ref b1), .val (.ref b4), .val (.ref b7), .val (.int (0 : Int32)), .val (.ref b10), .val (.long (q0 ||| q2)), .second, .val (.long (q1 ||| q3)), .second, .val (.int (1 : Int32))] [(.int (1 : Int32))])) (by intro t k; exact XS.iload X14.here hx rfl (hb hby at_147) rfl k) ?_
      show Run _ _ _ _ _ _ _ T14 (mkF m 149 #[.val (.long q0), .second, .val (.long q1), .second, .val (.long q2), .second, .val (.long q3), .second, .val (.int p4), .val (.ref b1), .val (.ref b4), .val (.ref b7), .val (.int (0 : Int32)), .val (.ref b10), .val (.long (q0 ||| q2)), .second, .val (.long (q1 ||| q3)), .second, .val (.int (1 : Int32))] [(.int (1 : Int32))])
      refine go (T' := T14) (f' := (mkF m 152 #[.val (.long q0), .second, .val (.long q1), .second, .val (.long q2), .second, .val (.long q3), .second, .val (.int p4), .val (.ref b1), .val (.ref b4), .val (.ref b7), .val (.int (0 : Int32)), .val (.ref b10), .val (.long (q0 ||| q2)), .second, .val (.long (q1 ||| q3)), .second, .val (.int (1 : Int32))] [])) (by intro t k; exact XS.ifNo X14.here hx rfl (hb hby at_149) rfl ((if0 _ _).trans (feq (by decide : ¬ ((1 : Int32) = (0 : Int32)))).1) k) ?_
      show Run _ _ _ _ _ _ _ T14 (mkF m 152 #[.val (.long q0), .second, .val (.long q1), .second, .val (.long q2), .second, .val (.long q3), .second, .val (.int p4), .val (.ref b1), .val (.ref b4), .val (.ref b7), .val (.int (0 : Int32)), .val (.ref b10), .val (.long (q0 ||| q2)), .second, .val (.long (q1 ||| q3)), .second, .val (.int (1 : Int32))] [])
      refine go (T' := T14) (f' := (mkF m 154 #[.val (.long q0), .second, .val (.long q1), .second, .val (.long q2), .second, .val (.long q3), .second, .val (.int p4), .val (.ref b1), .val (.ref b4), .val (.ref b7), .val (.int (0 : Int32)), .val (.ref b10), .val (.long (q0 ||| q2)), .second, .val (.long (q1 ||| q3)), .second, .val (.int (1 : Int32))] [(.ref b10)])) (by intro t k; exact XS.aload X14.here hx rfl (hb hby at_152) rfl rfl k) ?_
      show Run _ _ _ _ _ _ _ T14 (mkF m 154 #[.val (.long q0), .second, .val (.long q1), .second, .val (.long q2), .second, .val (.long q3), .second, .val (.int p4), .val (.ref b1), .val (.ref b4), .val (.ref b7), .val (.int (0 : Int32)), .val (.ref b10), .val (.long (q0 ||| q2)), .second, .val (.long (q1 ||| q3)), .second, .val (.int (1 : Int32))] [(.ref b10)])
      refine go (T' := T14) (f' := (mkF m 155 #[.val (.long q0), .second, .val (.long q1), .second, .val (.long q2), .second, .val (.long q3), .second, .val (.int p4), .val (.ref b1), .val (.ref b4), .val (.ref b7), .val (.int (0 : Int32)), .val (.ref b10), .val (.long (q0 ||| q2)), .second, .val (.long (q1 ||| q3)), .second, .val (.int (1 : Int32))] [(.int (0 : Int32)), (.ref b10)])) (by intro t k; exact XS.iconst X14.here hx rfl (hb hby at_154) k) ?_
      show Run _ _ _ _ _ _ _ T14 (mkF m 155 #[.val (.long q0), .second, .val (.long q1), .second, .val (.long q2), .second, .val (.long q3), .second, .val (.int p4), .val (.ref b1), .val (.ref b4), .val (.ref b7), .val (.int (0 : Int32)), .val (.ref b10), .val (.long (q0 ||| q2)), .second, .val (.long (q1 ||| q3)), .second, .val (.int (1 : Int32))] [(.int (0 : Int32)), (.ref b10)])
      obtain ⟨cq15, kq15, q15a, q15b, q15c⟩ := isOf hZ e14 E12_b10
      obtain ⟨_, _, ⟨T15, Lz15, kz15, nz15⟩, -, X15, ⟨Lc15, hQ15, lz15, yz15, zz15⟩, st15⟩ := X14.virtualBack hx (y := (⟨"com/example/barnacle/barnacle/BitArray", "word", "(I)J"⟩ : MethodName)) (z := (⟨"com/example/barnacle/barnacle/BitArray", "word", "(I)J"⟩ : MethodName)) hown (mvT hZ (hw _ (List.mem_of_getElem? (i := 17) rfl))) (mvT hZ (hw _ (List.mem_of_getElem? (i := 18) rfl))) (notFace_of_selects (args := #[]) (mvT hZ (hw _ (List.mem_of_getElem? (i := 20) rfl)))) (mvT hZ (hw _ (List.mem_of_getElem? (i := 20) rfl))) (mvT hZ (hw _ (List.mem_of_getElem? (i := 19) rfl))) (by decide) (backOf (W := 0) (rm4 l Z aw hw [] b10 (0 : Int32) b4 [(.long q2), (.long q3)] q2 T12.heap n0 Z12 F12_b10_words A12_b4 (by decide) rfl) hZ (hw _ (List.mem_of_getElem? (i := 21) rfl)) (hw _ (List.mem_of_getElem? (i := 3) rfl)) (by decide) (by decide)) q15a q15c (g := (mkF m 155 #[.val (.long q0), .second, .val (.long q1), .second, .val (.long q2), .second, .val (.long q3), .second, .val (.int p4), .val (.ref b1), .val (.ref b4), .val (.ref b7), .val (.int (0 : Int32)), .val (.ref b10), .val (.long (q0 ||| q2)), .second, .val (.long (q1 ||| q3)), .second, .val (.int (1 : Int32))] [(.int (0 : Int32)), (.ref b10)])) rfl (by rw [hml]; rfl) (Steps.refl _) (argsL := [(.int (0 : Int32))]) (rest := []) (lenOf pd_28I29J rfl) rfl (by show 2 * 0 + _ ≤ _; exact Nat.le_of_eq rfl) (hb hby at_155) (fun _ _ => ⟨rfl, e14, (by decide : 4 + 0 ≤ _), (by decide : 10 + 0 ≤ _)⟩)
      dsimp only [Pt.U, Pt.locs, Pt.cells, Pt.slots] at X15 lz15 yz15 zz15 st15 hQ15
      subst lz15 yz15 zz15
      obtain ⟨rfl, N15q, e15⟩ := hQ15
      have N15 := Fr.app N14 N15q
      refine go (fun _ k => st15.trans k) ?_
      show Run _ _ _ _ _ _ _ T15 (mkF m 158 #[.val (.long q0), .second, .val (.long q1), .second, .val (.long q2), .second, .val (.long q3), .second, .val (.int p4), .val (.ref b1), .val (.ref b4), .val (.ref b7), .val (.int (0 : Int32)), .val (.ref b10), .val (.long (q0 ||| q2)), .second, .val (.long (q1 ||| q3)), .second, .val (.int (1 : Int32))] [(.long q2)])
      refine go (T' := T15) (f' := (mkF m 160 #[.val (.long q0), .second, .val (.long q1), .second, .val (.long q2), .second, .val (.long q3), .second, .val (.int p4), .val (.ref b1), .val (.ref b4), .val (.ref b7), .val (.int (0 : Int32)), .val (.ref b10), .val (.long (q0 ||| q2)), .second, .val (.long (q1 ||| q3)), .second, .val (.int (1 : Int32))] [(.long q2), (.long q2)])) (by intro t k; exact XS.lload X15.here hx rfl (hb hby at_158) rfl k) ?_
      show Run _ _ _ _ _ _ _ T15 (mkF m 160 #[.val (.long q0), .second, .val (.long q1), .second, .val (.long q2), .second, .val (.long q3), .second, .val (.int p4), .val (.ref b1), .val (.ref b4), .val (.ref b7), .val (.int (0 : Int32)), .val (.ref b10), .val (.long (q0 ||| q2)), .second, .val (.long (q1 ||| q3)), .second, .val (.int (1 : Int32))] [(.long q2), (.long q2)])
      refine go (T' := T15) (f' := (mkF m 161 #[.val (.long q0), .second, .val (.long q1), .second, .val (.long q2), .second, .val (.long q3), .second, .val (.int p4), .val (.ref b1), .val (.ref b4), .val (.ref b7), .val (.int (0 : Int32)), .val (.ref b10), .val (.long (q0 ||| q2)), .second, .val (.long (q1 ||| q3)), .second, .val (.int (1 : Int32))] [(.int (lcmpW q2 q2))])) (by intro t k; exact XS.lcmp X15.here hx rfl (hb hby at_160) rfl k) ?_
      show Run _ _ _ _ _ _ _ T15 (mkF m 161 #[.val (.long q0), .second, .val (.long q1), .second, .val (.long q2), .second, .val (.long q3), .second, .val (.int p4), .val (.ref b1), .val (.ref b4), .val (.ref b7), .val (.int (0 : Int32)), .val (.ref b10), .val (.long (q0 ||| q2)), .second, .val (.long (q1 ||| q3)), .second, .val (.int (1 : Int32))] [(.int (lcmpW q2 q2))])
      refine go (T' := T15) (f' := (mkF m 164 #[.val (.long q0), .second, .val (.long q1), .second, .val (.long q2), .second, .val (.long q3), .second, .val (.int p4), .val (.ref b1), .val (.ref b4), .val (.ref b7), .val (.int (0 : Int32)), .val (.ref b10), .val (.long (q0 ||| q2)), .second, .val (.long (q1 ||| q3)), .second, .val (.int (1 : Int32))] [])) (by intro t k; exact XS.ifNo X15.here hx rfl (hb hby at_161) rfl ((if0 _ _).trans (teq ((lw_eq _ _).mpr (by first | rfl | exact Int64.or_self : q2 = q2))).2) k) ?_
      show Run _ _ _ _ _ _ _ T15 (mkF m 164 #[.val (.long q0), .second, .val (.long q1), .second, .val (.long q2), .second, .val (.long q3), .second, .val (.int p4), .val (.ref b1), .val (.ref b4), .val (.ref b7), .val (.int (0 : Int32)), .val (.ref b10), .val (.long (q0 ||| q2)), .second, .val (.long (q1 ||| q3)), .second, .val (.int (1 : Int32))] [])
      refine go (T' := T15) (f' := (mkF m 166 #[.val (.long q0), .second, .val (.long q1), .second, .val (.long q2), .second, .val (.long q3), .second, .val (.int p4), .val (.ref b1), .val (.ref b4), .val (.ref b7), .val (.int (0 : Int32)), .val (.ref b10), .val (.long (q0 ||| q2)), .second, .val (.long (q1 ||| q3)), .second, .val (.int (1 : Int32))] [(.ref b10)])) (by intro t k; exact XS.aload X15.here hx rfl (hb hby at_164) rfl rfl k) ?_
      show Run _ _ _ _ _ _ _ T15 (mkF m 166 #[.val (.long q0), .second, .val (.long q1), .second, .val (.long q2), .second, .val (.long q3), .second, .val (.int p4), .val (.ref b1), .val (.ref b4), .val (.ref b7), .val (.int (0 : Int32)), .val (.ref b10), .val (.long (q0 ||| q2)), .second, .val (.long (q1 ||| q3)), .second, .val (.int (1 : Int32))] [(.ref b10)])
      refine go (T' := T15) (f' := (mkF m 167 #[.val (.long q0), .second, .val (.long q1), .second, .val (.long q2), .second, .val (.long q3), .second, .val (.int p4), .val (.ref b1), .val (.ref b4), .val (.ref b7), .val (.int (0 : Int32)), .val (.ref b10), .val (.long (q0 ||| q2)), .second, .val (.long (q1 ||| q3)), .second, .val (.int (1 : Int32))] [(.int (1 : Int32)), (.ref b10)])) (by intro t k; exact XS.iconst X15.here hx rfl (hb hby at_166) k) ?_
      show Run _ _ _ _ _ _ _ T15 (mkF m 167 #[.val (.long q0), .second, .val (.long q1), .second, .val (.long q2), .second, .val (.long q3), .second, .val (.int p4), .val (.ref b1), .val (.ref b4), .val (.ref b7), .val (.int (0 : Int32)), .val (.ref b10), .val (.long (q0 ||| q2)), .second, .val (.long (q1 ||| q3)), .second, .val (.int (1 : Int32))] [(.int (1 : Int32)), (.ref b10)])
      obtain ⟨cq16, kq16, q16a, q16b, q16c⟩ := isOf hZ e15 E12_b10
      obtain ⟨_, _, ⟨T16, Lz16, kz16, nz16⟩, -, X16, ⟨Lc16, hQ16, lz16, yz16, zz16⟩, st16⟩ := X15.virtualBack hx (y := (⟨"com/example/barnacle/barnacle/BitArray", "word", "(I)J"⟩ : MethodName)) (z := (⟨"com/example/barnacle/barnacle/BitArray", "word", "(I)J"⟩ : MethodName)) hown (mvT hZ (hw _ (List.mem_of_getElem? (i := 17) rfl))) (mvT hZ (hw _ (List.mem_of_getElem? (i := 18) rfl))) (notFace_of_selects (args := #[]) (mvT hZ (hw _ (List.mem_of_getElem? (i := 20) rfl)))) (mvT hZ (hw _ (List.mem_of_getElem? (i := 20) rfl))) (mvT hZ (hw _ (List.mem_of_getElem? (i := 19) rfl))) (by decide) (backOf (W := 0) (rm4 l Z aw hw [] b10 (1 : Int32) b4 [(.long q2), (.long q3)] q3 T12.heap n0 Z12 F12_b10_words A12_b4 (by decide) rfl) hZ (hw _ (List.mem_of_getElem? (i := 21) rfl)) (hw _ (List.mem_of_getElem? (i := 3) rfl)) (by decide) (by decide)) q16a q16c (g := (mkF m 167 #[.val (.long q0), .second, .val (.long q1), .second, .val (.long q2), .second, .val (.long q3), .second, .val (.int p4), .val (.ref b1), .val (.ref b4), .val (.ref b7), .val (.int (0 : Int32)), .val (.ref b10), .val (.long (q0 ||| q2)), .second, .val (.long (q1 ||| q3)), .second, .val (.int (1 : Int32))] [(.int (1 : Int32)), (.ref b10)])) rfl (by rw [hml]; rfl) (Steps.refl _) (argsL := [(.int (1 : Int32))]) (rest := []) (lenOf pd_28I29J rfl) rfl (by show 2 * 0 + _ ≤ _; exact Nat.le_of_eq rfl) (hb hby at_167) (fun _ _ => ⟨rfl, e15, (by decide : 4 + 0 ≤ _), (by decide : 10 + 0 ≤ _)⟩)
      dsimp only [Pt.U, Pt.locs, Pt.cells, Pt.slots] at X16 lz16 yz16 zz16 st16 hQ16
      subst lz16 yz16 zz16
      obtain ⟨rfl, N16q, e16⟩ := hQ16
      have N16 := Fr.app N15 N16q
      refine go (fun _ k => st16.trans k) ?_
      show Run _ _ _ _ _ _ _ T16 (mkF m 170 #[.val (.long q0), .second, .val (.long q1), .second, .val (.long q2), .second, .val (.long q3), .second, .val (.int p4), .val (.ref b1), .val (.ref b4), .val (.ref b7), .val (.int (0 : Int32)), .val (.ref b10), .val (.long (q0 ||| q2)), .second, .val (.long (q1 ||| q3)), .second, .val (.int (1 : Int32))] [(.long q3)])
      refine go (T' := T16) (f' := (mkF m 172 #[.val (.long q0), .second, .val (.long q1), .second, .val (.long q2), .second, .val (.long q3), .second, .val (.int p4), .val (.ref b1), .val (.ref b4), .val (.ref b7), .val (.int (0 : Int32)), .val (.ref b10), .val (.long (q0 ||| q2)), .second, .val (.long (q1 ||| q3)), .second, .val (.int (1 : Int32))] [(.long q3), (.long q3)])) (by intro t k; exact XS.lload X16.here hx rfl (hb hby at_170) rfl k) ?_
      show Run _ _ _ _ _ _ _ T16 (mkF m 172 #[.val (.long q0), .second, .val (.long q1), .second, .val (.long q2), .second, .val (.long q3), .second, .val (.int p4), .val (.ref b1), .val (.ref b4), .val (.ref b7), .val (.int (0 : Int32)), .val (.ref b10), .val (.long (q0 ||| q2)), .second, .val (.long (q1 ||| q3)), .second, .val (.int (1 : Int32))] [(.long q3), (.long q3)])
      refine go (T' := T16) (f' := (mkF m 173 #[.val (.long q0), .second, .val (.long q1), .second, .val (.long q2), .second, .val (.long q3), .second, .val (.int p4), .val (.ref b1), .val (.ref b4), .val (.ref b7), .val (.int (0 : Int32)), .val (.ref b10), .val (.long (q0 ||| q2)), .second, .val (.long (q1 ||| q3)), .second, .val (.int (1 : Int32))] [(.int (lcmpW q3 q3))])) (by intro t k; exact XS.lcmp X16.here hx rfl (hb hby at_172) rfl k) ?_
      show Run _ _ _ _ _ _ _ T16 (mkF m 173 #[.val (.long q0), .second, .val (.long q1), .second, .val (.long q2), .second, .val (.long q3), .second, .val (.int p4), .val (.ref b1), .val (.ref b4), .val (.ref b7), .val (.int (0 : Int32)), .val (.ref b10), .val (.long (q0 ||| q2)), .second, .val (.long (q1 ||| q3)), .second, .val (.int (1 : Int32))] [(.int (lcmpW q3 q3))])
      refine go (T' := T16) (f' := (mkF m 176 #[.val (.long q0), .second, .val (.long q1), .second, .val (.long q2), .second, .val (.long q3), .second, .val (.int p4), .val (.ref b1), .val (.ref b4), .val (.ref b7), .val (.int (0 : Int32)), .val (.ref b10), .val (.long (q0 ||| q2)), .second, .val (.long (q1 ||| q3)), .second, .val (.int (1 : Int32))] [])) (by intro t k; exact XS.ifNo X16.here hx rfl (hb hby at_173) rfl ((if0 _ _).trans (teq ((lw_eq _ _).mpr (by first | rfl | exact Int64.or_self : q3 = q3))).2) k) ?_
      show Run _ _ _ _ _ _ _ T16 (mkF m 176 #[.val (.long q0), .second, .val (.long q1), .second, .val (.long q2), .second, .val (.long q3), .second, .val (.int p4), .val (.ref b1), .val (.ref b4), .val (.ref b7), .val (.int (0 : Int32)), .val (.ref b10), .val (.long (q0 ||| q2)), .second, .val (.long (q1 ||| q3)), .second, .val (.int (1 : Int32))] [])
      refine go (T' := T16) (f' := (mkF m 177 #[.val (.long q0), .second, .val (.long q1), .second, .val (.long q2), .second, .val (.long q3), .second, .val (.int p4), .val (.ref b1), .val (.ref b4), .val (.ref b7), .val (.int (0 : Int32)), .val (.ref b10), .val (.long (q0 ||| q2)), .second, .val (.long (q1 ||| q3)), .second, .val (.int (1 : Int32))] [(.int (1 : Int32))])) (by intro t k; exact XS.iconst X16.here hx rfl (hb hby at_176) k) ?_
      show Run _ _ _ _ _ _ _ T16 (mkF m 177 #[.val (.long q0), .second, .val (.long q1), .second, .val (.long q2), .second, .val (.long q3), .second, .val (.int p4), .val (.ref b1), .val (.ref b4), .val (.ref b7), .val (.int (0 : Int32)), .val (.ref b10), .val (.long (q0 ||| q2)), .second, .val (.long (q1 ||| q3)), .second, .val (.int (1 : Int32))] [(.int (1 : Int32))])
      refine go (T' := T16) (f' := (mkF m 181 #[.val (.long q0), .second, .val (.long q1), .second, .val (.long q2), .second, .val (.long q3), .second, .val (.int p4), .val (.ref b1), .val (.ref b4), .val (.ref b7), .val (.int (0 : Int32)), .val (.ref b10), .val (.long (q0 ||| q2)), .second, .val (.long (q1 ||| q3)), .second, .val (.int (1 : Int32))] [(.int (1 : Int32))])) (by intro t k; exact XS.goto X16.here hx rfl (pc0 := 177) (pc' := 181) rfl (hb hby at_177) (by decide) (by decide) k) ?_
      show Run _ _ _ _ _ _ _ T16 (mkF m 181 #[.val (.long q0), .second, .val (.long q1), .second, .val (.long q2), .second, .val (.long q3), .second, .val (.int p4), .val (.ref b1), .val (.ref b4), .val (.ref b7), .val (.int (0 : Int32)), .val (.ref b10), .val (.long (q0 ||| q2)), .second, .val (.long (q1 ||| q3)), .second, .val (.int (1 : Int32))] [(.int (1 : Int32))])
      refine go (T' := T16) (f' := (mkF m 183 #[.val (.long q0), .second, .val (.long q1), .second, .val (.long q2), .second, .val (.long q3), .second, .val (.int p4), .val (.ref b1), .val (.ref b4), .val (.ref b7), .val (.int (0 : Int32)), .val (.ref b10), .val (.long (q0 ||| q2)), .second, .val (.long (q1 ||| q3)), .second, .val (.int (1 : Int32))] [])) (by intro t k; exact XS.istore X16.here hx rfl (hb hby at_181) rfl (l' := #[.val (.long q0), .second, .val (.long q1), .second, .val (.long q2), .second, .val (.long q3), .second, .val (.int p4), .val (.ref b1), .val (.ref b4), .val (.ref b7), .val (.int (0 : Int32)), .val (.ref b10), .val (.long (q0 ||| q2)), .second, .val (.long (q1 ||| q3)), .second, .val (.int (1 : Int32))]) rfl k) ?_
      show Run _ _ _ _ _ _ _ T16 (mkF m 183 #[.val (.long q0), .second, .val (.long q1), .second, .val (.long q2), .second, .val (.long q3), .second, .val (.int p4), .val (.ref b1), .val (.ref b4), .val (.ref b7), .val (.int (0 : Int32)), .val (.ref b10), .val (.long (q0 ||| q2)), .second, .val (.long (q1 ||| q3)), .second, .val (.int (1 : Int32))] [])
      refine go (T' := T16) (f' := (mkF m 185 #[.val (.long q0), .second, .val (.long q1), .second, .val (.long q2), .second, .val (.long q3), .second, .val (.int p4), .val (.ref b1), .val (.ref b4), .val (.ref b7), .val (.int (0 : Int32)), .val (.ref b10), .val (.long (q0 ||| q2)), .second, .val (.long (q1 ||| q3)), .second, .val (.int (1 : Int32))] [(.int (1 : Int32))])) (by intro t k; exact XS.iload X16.here hx rfl (hb hby at_183) rfl k) ?_
      show Run _ _ _ _ _ _ _ T16 (mkF m 185 #[.val (.long q0), .second, .val (.long q1), .second, .val (.long q2), .second, .val (.long q3), .second, .val (.int p4), .val (.ref b1), .val (.ref b4), .val (.ref b7), .val (.int (0 : Int32)), .val (.ref b10), .val (.long (q0 ||| q2)), .second, .val (.long (q1 ||| q3)), .second, .val (.int (1 : Int32))] [(.int (1 : Int32))])
      refine retZ X16 hx (t := .boolean) Bd.returns (by simp) (hb hby at_185) hlk (by decide) (by decide) ?_
      show Q0 Z q0 q1 q2 q3 p4 h0 n0 _ T16.heap _
      rw [e16]
      have hv' : (nar .boolean (1 : Int32)) = (1 : Int32) := by
        rfl
      have hv : (some (.int (nar .boolean (1 : Int32))) : Option Value) = some (.int (1 : Int32)) := congrArg (fun z => (some (.int z) : Option Value)) hv'
      exact ⟨hv, N16⟩
    · subst ez
      show Run _ _ _ _ _ _ _ T8 (mkF m 51 #[.val (.long q0), .second, .val (.long q1), .second, .val (.long q2), .second, .val (.long q3), .second, .val (.int p4), .val (.ref b1), .val (.ref b4), .val (.ref b7), .unset, .unset, .unset, .unset, .unset, .unset, .unset] [(.int (1 : Int32))])
      refine go (T' := T8) (f' := (mkF m 53 #[.val (.long q0), .second, .val (.long q1), .second, .val (.long q2), .second, .val (.long q3), .second, .val (.int p4), .val (.ref b1), .val (.ref b4), .val (.ref b7), .val (.int (1 : Int32)), .unset, .unset, .unset, .unset, .unset, .unset] [])) (by intro t k; exact XS.istore X8.here hx rfl (hb hby at_51) rfl (l' := #[.val (.long q0), .second, .val (.long q1), .second, .val (.long q2), .second, .val (.long q3), .second, .val (.int p4), .val (.ref b1), .val (.ref b4), .val (.ref b7), .val (.int (1 : Int32)), .unset, .unset, .unset, .unset, .unset, .unset]) rfl k) ?_
      show Run _ _ _ _ _ _ _ T8 (mkF m 53 #[.val (.long q0), .second, .val (.long q1), .second, .val (.long q2), .second, .val (.long q3), .second, .val (.int p4), .val (.ref b1), .val (.ref b4), .val (.ref b7), .val (.int (1 : Int32)), .unset, .unset, .unset, .unset, .unset, .unset] [])
      refine go (T' := T8) (f' := (mkF m 55 #[.val (.long q0), .second, .val (.long q1), .second, .val (.long q2), .second, .val (.long q3), .second, .val (.int p4), .val (.ref b1), .val (.ref b4), .val (.ref b7), .val (.int (1 : Int32)), .unset, .unset, .unset, .unset, .unset, .unset] [(.int (1 : Int32))])) (by intro t k; exact XS.iload X8.here hx rfl (hb hby at_53) rfl k) ?_
      show Run _ _ _ _ _ _ _ T8 (mkF m 55 #[.val (.long q0), .second, .val (.long q1), .second, .val (.long q2), .second, .val (.long q3), .second, .val (.int p4), .val (.ref b1), .val (.ref b4), .val (.ref b7), .val (.int (1 : Int32)), .unset, .unset, .unset, .unset, .unset, .unset] [(.int (1 : Int32))])
      refine go (T' := T8) (f' := (mkF m 58 #[.val (.long q0), .second, .val (.long q1), .second, .val (.long q2), .second, .val (.long q3), .second, .val (.int p4), .val (.ref b1), .val (.ref b4), .val (.ref b7), .val (.int (1 : Int32)), .unset, .unset, .unset, .unset, .unset, .unset] [])) (by intro t k; exact XS.ifNo X8.here hx rfl (hb hby at_55) rfl ((if0 _ _).trans (feq (by decide : ¬ ((1 : Int32) = (0 : Int32)))).1) k) ?_
      show Run _ _ _ _ _ _ _ T8 (mkF m 58 #[.val (.long q0), .second, .val (.long q1), .second, .val (.long q2), .second, .val (.long q3), .second, .val (.int p4), .val (.ref b1), .val (.ref b4), .val (.ref b7), .val (.int (1 : Int32)), .unset, .unset, .unset, .unset, .unset, .unset] [])
      refine go (T' := T8) (f' := (mkF m 60 #[.val (.long q0), .second, .val (.long q1), .second, .val (.long q2), .second, .val (.long q3), .second, .val (.int p4), .val (.ref b1), .val (.ref b4), .val (.ref b7), .val (.int (1 : Int32)), .unset, .unset, .unset, .unset, .unset, .unset] [(.ref b7)])) (by intro t k; exact XS.aload X8.here hx rfl (hb hby at_58) rfl rfl k) ?_
      show Run _ _ _ _ _ _ _ T8 (mkF m 60 #[.val (.long q0), .second, .val (.long q1), .second, .val (.long q2), .second, .val (.long q3), .second, .val (.int p4), .val (.ref b1), .val (.ref b4), .val (.ref b7), .val (.int (1 : Int32)), .unset, .unset, .unset, .unset, .unset, .unset] [(.ref b7)])
      refine go (T' := T8) (f' := (mkF m 72 #[.val (.long q0), .second, .val (.long q1), .second, .val (.long q2), .second, .val (.long q3), .second, .val (.int p4), .val (.ref b1), .val (.ref b4), .val (.ref b7), .val (.int (1 : Int32)), .unset, .unset, .unset, .unset, .unset, .unset] [(.ref b7)])) (by intro t k; exact XS.goto X8.here hx rfl (pc0 := 60) (pc' := 72) rfl (hb hby at_60) (by decide) (by decide) k) ?_
      show Run _ _ _ _ _ _ _ T8 (mkF m 72 #[.val (.long q0), .second, .val (.long q1), .second, .val (.long q2), .second, .val (.long q3), .second, .val (.int p4), .val (.ref b1), .val (.ref b4), .val (.ref b7), .val (.int (1 : Int32)), .unset, .unset, .unset, .unset, .unset, .unset] [(.ref b7)])
      refine go (T' := T8) (f' := (mkF m 74 #[.val (.long q0), .second, .val (.long q1), .second, .val (.long q2), .second, .val (.long q3), .second, .val (.int p4), .val (.ref b1), .val (.ref b4), .val (.ref b7), .val (.int (1 : Int32)), .val (.ref b7), .unset, .unset, .unset, .unset, .unset] [])) (by intro t k; exact XS.astore X8.here hx rfl (hb hby at_72) rfl rfl (l' := #[.val (.long q0), .second, .val (.long q1), .second, .val (.long q2), .second, .val (.long q3), .second, .val (.int p4), .val (.ref b1), .val (.ref b4), .val (.ref b7), .val (.int (1 : Int32)), .val (.ref b7), .unset, .unset, .unset, .unset, .unset]) rfl k) ?_
      show Run _ _ _ _ _ _ _ T8 (mkF m 74 #[.val (.long q0), .second, .val (.long q1), .second, .val (.long q2), .second, .val (.long q3), .second, .val (.int p4), .val (.ref b1), .val (.ref b4), .val (.ref b7), .val (.int (1 : Int32)), .val (.ref b7), .unset, .unset, .unset, .unset, .unset] [])
      refine go (T' := T8) (f' := (mkF m 76 #[.val (.long q0), .second, .val (.long q1), .second, .val (.long q2), .second, .val (.long q3), .second, .val (.int p4), .val (.ref b1), .val (.ref b4), .val (.ref b7), .val (.int (1 : Int32)), .val (.ref b7), .unset, .unset, .unset, .unset, .unset] [(.int (1 : Int32))])) (by intro t k; exact XS.iload X8.here hx rfl (hb hby at_74) rfl k) ?_
      show Run _ _ _ _ _ _ _ T8 (mkF m 76 #[.val (.long q0), .second, .val (.long q1), .second, .val (.long q2), .second, .val (.long q3), .second, .val (.int p4), .val (.ref b1), .val (.ref b4), .val (.ref b7), .val (.int (1 : Int32)), .val (.ref b7), .unset, .unset, .unset, .unset, .unset] [(.int (1 : Int32))])
      refine go (T' := T8) (f' := (mkF m 79 #[.val (.long q0), .second, .val (.long q1), .second, .val (.long q2), .second, .val (.long q3), .second, .val (.int p4), .val (.ref b1), .val (.ref b4), .val (.ref b7), .val (.int (1 : Int32)), .val (.ref b7), .unset, .unset, .unset, .unset, .unset] [])) (by intro t k; exact XS.ifNo X8.here hx rfl (hb hby at_76) rfl ((if0 _ _).trans (feq (by decide : ¬ ((1 : Int32) = (0 : Int32)))).1) k) ?_
      show Run _ _ _ _ _ _ _ T8 (mkF m 79 #[.val (.long q0), .second, .val (.long q1), .second, .val (.long q2), .second, .val (.long q3), .second, .val (.int p4), .val (.ref b1), .val (.ref b4), .val (.ref b7), .val (.int (1 : Int32)), .val (.ref b7), .unset, .unset, .unset, .unset, .unset] [])
      refine go (T' := T8) (f' := (mkF m 80 #[.val (.long q0), .second, .val (.long q1), .second, .val (.long q2), .second, .val (.long q3), .second, .val (.int p4), .val (.ref b1), .val (.ref b4), .val (.ref b7), .val (.int (1 : Int32)), .val (.ref b7), .unset, .unset, .unset, .unset, .unset] [(.long q0)])) (by intro t k; exact XS.lloadN X8.here hx rfl (hb hby at_79) rfl k) ?_
      show Run _ _ _ _ _ _ _ T8 (mkF m 80 #[.val (.long q0), .second, .val (.long q1), .second, .val (.long q2), .second, .val (.long q3), .second, .val (.int p4), .val (.ref b1), .val (.ref b4), .val (.ref b7), .val (.int (1 : Int32)), .val (.ref b7), .unset, .unset, .unset, .unset, .unset] [(.long q0)])
      refine go (T' := T8) (f' := (mkF m 87 #[.val (.long q0), .second, .val (.long q1), .second, .val (.long q2), .second, .val (.long q3), .second, .val (.int p4), .val (.ref b1), .val (.ref b4), .val (.ref b7), .val (.int (1 : Int32)), .val (.ref b7), .unset, .unset, .unset, .unset, .unset] [(.long q0)])) (by intro t k; exact XS.goto X8.here hx rfl (pc0 := 80) (pc' := 87) rfl (hb hby at_80) (by decide) (by decide) k) ?_
      show Run _ _ _ _ _ _ _ T8 (mkF m 87 #[.val (.long q0), .second, .val (.long q1), .second, .val (.long q2), .second, .val (.long q3), .second, .val (.int p4), .val (.ref b1), .val (.ref b4), .val (.ref b7), .val (.int (1 : Int32)), .val (.ref b7), .unset, .unset, .unset, .unset, .unset] [(.long q0)])
      refine go (T' := T8) (f' := (mkF m 89 #[.val (.long q0), .second, .val (.long q1), .second, .val (.long q2), .second, .val (.long q3), .second, .val (.int p4), .val (.ref b1), .val (.ref b4), .val (.ref b7), .val (.int (1 : Int32)), .val (.ref b7), .val (.long q0), .second, .unset, .unset, .unset] [])) (by intro t k; exact XS.lstore X8.here hx rfl (hb hby at_87) rfl (l' := #[.val (.long q0), .second, .val (.long q1), .second, .val (.long q2), .second, .val (.long q3), .second, .val (.int p4), .val (.ref b1), .val (.ref b4), .val (.ref b7), .val (.int (1 : Int32)), .val (.ref b7), .val (.long q0), .second, .unset, .unset, .unset]) rfl k) ?_
      show Run _ _ _ _ _ _ _ T8 (mkF m 89 #[.val (.long q0), .second, .val (.long q1), .second, .val (.long q2), .second, .val (.long q3), .second, .val (.int p4), .val (.ref b1), .val (.ref b4), .val (.ref b7), .val (.int (1 : Int32)), .val (.ref b7), .val (.long q0), .second, .unset, .unset, .unset] [])
      refine go (T' := T8) (f' := (mkF m 91 #[.val (.long q0), .second, .val (.long q1), .second, .val (.long q2), .second, .val (.long q3), .second, .val (.int p4), .val (.ref b1), .val (.ref b4), .val (.ref b7), .val (.int (1 : Int32)), .val (.ref b7), .val (.long q0), .second, .unset, .unset, .unset] [(.int (1 : Int32))])) (by intro t k; exact XS.iload X8.here hx rfl (hb hby at_89) rfl k) ?_
      show Run _ _ _ _ _ _ _ T8 (mkF m 91 #[.val (.long q0), .second, .val (.long q1), .second, .val (.long q2), .second, .val (.long q3), .second, .val (.int p4), .val (.ref b1), .val (.ref b4), .val (.ref b7), .val (.int (1 : Int32)), .val (.ref b7), .val (.long q0), .second, .unset, .unset, .unset] [(.int (1 : Int32))])
      refine go (T' := T8) (f' := (mkF m 94 #[.val (.long q0), .second, .val (.long q1), .second, .val (.long q2), .second, .val (.long q3), .second, .val (.int p4), .val (.ref b1), .val (.ref b4), .val (.ref b7), .val (.int (1 : Int32)), .val (.ref b7), .val (.long q0), .second, .unset, .unset, .unset] [])) (by intro t k; exact XS.ifNo X8.here hx rfl (hb hby at_91) rfl ((if0 _ _).trans (feq (by decide : ¬ ((1 : Int32) = (0 : Int32)))).1) k) ?_
      show Run _ _ _ _ _ _ _ T8 (mkF m 94 #[.val (.long q0), .second, .val (.long q1), .second, .val (.long q2), .second, .val (.long q3), .second, .val (.int p4), .val (.ref b1), .val (.ref b4), .val (.ref b7), .val (.int (1 : Int32)), .val (.ref b7), .val (.long q0), .second, .unset, .unset, .unset] [])
      refine go (T' := T8) (f' := (mkF m 95 #[.val (.long q0), .second, .val (.long q1), .second, .val (.long q2), .second, .val (.long q3), .second, .val (.int p4), .val (.ref b1), .val (.ref b4), .val (.ref b7), .val (.int (1 : Int32)), .val (.ref b7), .val (.long q0), .second, .unset, .unset, .unset] [(.long q1)])) (by intro t k; exact XS.lloadN X8.here hx rfl (hb hby at_94) rfl k) ?_
      show Run _ _ _ _ _ _ _ T8 (mkF m 95 #[.val (.long q0), .second, .val (.long q1), .second, .val (.long q2), .second, .val (.long q3), .second, .val (.int p4), .val (.ref b1), .val (.ref b4), .val (.ref b7), .val (.int (1 : Int32)), .val (.ref b7), .val (.long q0), .second, .unset, .unset, .unset] [(.long q1)])
      refine go (T' := T8) (f' := (mkF m 102 #[.val (.long q0), .second, .val (.long q1), .second, .val (.long q2), .second, .val (.long q3), .second, .val (.int p4), .val (.ref b1), .val (.ref b4), .val (.ref b7), .val (.int (1 : Int32)), .val (.ref b7), .val (.long q0), .second, .unset, .unset, .unset] [(.long q1)])) (by intro t k; exact XS.goto X8.here hx rfl (pc0 := 95) (pc' := 102) rfl (hb hby at_95) (by decide) (by decide) k) ?_
      show Run _ _ _ _ _ _ _ T8 (mkF m 102 #[.val (.long q0), .second, .val (.long q1), .second, .val (.long q2), .second, .val (.long q3), .second, .val (.int p4), .val (.ref b1), .val (.ref b4), .val (.ref b7), .val (.int (1 : Int32)), .val (.ref b7), .val (.long q0), .second, .unset, .unset, .unset] [(.long q1)])
      refine go (T' := T8) (f' := (mkF m 104 #[.val (.long q0), .second, .val (.long q1), .second, .val (.long q2), .second, .val (.long q3), .second, .val (.int p4), .val (.ref b1), .val (.ref b4), .val (.ref b7), .val (.int (1 : Int32)), .val (.ref b7), .val (.long q0), .second, .val (.long q1), .second, .unset] [])) (by intro t k; exact XS.lstore X8.here hx rfl (hb hby at_102) rfl (l' := #[.val (.long q0), .second, .val (.long q1), .second, .val (.long q2), .second, .val (.long q3), .second, .val (.int p4), .val (.ref b1), .val (.ref b4), .val (.ref b7), .val (.int (1 : Int32)), .val (.ref b7), .val (.long q0), .second, .val (.long q1), .second, .unset]) rfl k) ?_
      show Run _ _ _ _ _ _ _ T8 (mkF m 104 #[.val (.long q0), .second, .val (.long q1), .second, .val (.long q2), .second, .val (.long q3), .second, .val (.int p4), .val (.ref b1), .val (.ref b4), .val (.ref b7), .val (.int (1 : Int32)), .val (.ref b7), .val (.long q0), .second, .val (.long q1), .second, .unset] [])
      refine go (T' := T8) (f' := (mkF m 106 #[.val (.long q0), .second, .val (.long q1), .second, .val (.long q2), .second, .val (.long q3), .second, .val (.int p4), .val (.ref b1), .val (.ref b4), .val (.ref b7), .val (.int (1 : Int32)), .val (.ref b7), .val (.long q0), .second, .val (.long q1), .second, .unset] [(.ref b7)])) (by intro t k; exact XS.aload X8.here hx rfl (hb hby at_104) rfl rfl k) ?_
      show Run _ _ _ _ _ _ _ T8 (mkF m 106 #[.val (.long q0), .second, .val (.long q1), .second, .val (.long q2), .second, .val (.long q3), .second, .val (.int p4), .val (.ref b1), .val (.ref b4), .val (.ref b7), .val (.int (1 : Int32)), .val (.ref b7), .val (.long q0), .second, .val (.long q1), .second, .unset] [(.ref b7)])
      refine go (T' := T8) (f' := (mkF m 108 #[.val (.long q0), .second, .val (.long q1), .second, .val (.long q2), .second, .val (.long q3), .second, .val (.int p4), .val (.ref b1), .val (.ref b4), .val (.ref b7), .val (.int (1 : Int32)), .val (.ref b7), .val (.long q0), .second, .val (.long q1), .second, .unset] [(.ref b7), (.ref b7)])) (by intro t k; exact XS.aload X8.here hx rfl (hb hby at_106) rfl rfl k) ?_
      show Run _ _ _ _ _ _ _ T8 (mkF m 108 #[.val (.long q0), .second, .val (.long q1), .second, .val (.long q2), .second, .val (.long q3), .second, .val (.int p4), .val (.ref b1), .val (.ref b4), .val (.ref b7), .val (.int (1 : Int32)), .val (.ref b7), .val (.long q0), .second, .val (.long q1), .second, .unset] [(.ref b7), (.ref b7)])
      obtain ⟨cq17, kq17, q17a, q17b, q17c⟩ := isOf hZ rfl E8_b7
      obtain ⟨_, _, ⟨T17, Lz17, kz17, nz17⟩, -, X17, ⟨Lc17, hQ17, lz17, yz17, zz17⟩, st17⟩ := X8.virtualBack hx (y := site_108) (z := site_108) hown (mvT hZ (hw _ (List.mem_of_getElem? (i := 12) rfl))) (mvT hZ (hw _ (List.mem_of_getElem? (i := 13) rfl))) (notFace_of_selects (args := #[]) (mvT hZ (hw _ (List.mem_of_getElem? (i := 15) rfl)))) (mvT hZ (hw _ (List.mem_of_getElem? (i := 15) rfl))) (mvT hZ (hw _ (List.mem_of_getElem? (i := 14) rfl))) (by decide) (backOf (W := 0) (rm3s l Z aw hw [] b7 b7 b1 q0 q1 T8.heap n0 Z8 Fq8 Fq8 A8_b1 ge_b1 (Ne.symm ne_b1_b7) (Ne.symm ne_b1_b7)) hZ (hw _ (List.mem_of_getElem? (i := 16) rfl)) (hw _ (List.mem_of_getElem? (i := 3) rfl)) (by decide) (by decide)) q17a q17c (g := (mkF m 108 #[.val (.long q0), .second, .val (.long q1), .second, .val (.long q2), .second, .val (.long q3), .second, .val (.int p4), .val (.ref b1), .val (.ref b4), .val (.ref b7), .val (.int (1 : Int32)), .val (.ref b7), .val (.long q0), .second, .val (.long q1), .second, .unset] [(.ref b7), (.ref b7)])) rfl (by rw [hml]; rfl) (Steps.refl _) (argsL := [(.ref b7)]) (rest := []) (lenOf pd_28Lcom2fexample2fbarnacle2fbarnacle2fBitArray3b29V rfl) rfl (by show 2 * 0 + _ ≤ _; exact Nat.le_of_eq rfl) (hb hby at_108) (fun _ _ => ⟨rfl, rfl, (by decide : 3 + 0 ≤ _), (by decide : 7 + 0 ≤ _)⟩)
      dsimp only [Pt.U, Pt.locs, Pt.cells, Pt.slots] at X17 lz17 yz17 zz17 st17 hQ17
      subst lz17 yz17 zz17
      obtain ⟨rfl, N17q, K17, Aq17⟩ := hQ17
      have E17_b1 : Exa Z T17.heap b1 "[J" := E8_b1.keep K17
      have E17_b4 : Exa Z T17.heap b4 "[J" := E8_b4.keep K17
      have E17_b7 : Exa Z T17.heap b7 "com/example/barnacle/barnacle/BitArray" := E8_b7.keep K17
      have F17_b7_words : Fld Z T17.heap b7 "com/example/barnacle/barnacle/BitArray" "words" "[J" (.ref b1) := Fq8.keep K17 (ninS (Ne.symm ne_b1_b7) nin0)
      have A17_b4 : Ary Z T17.heap b4 .long [(.long q2), (.long q3)] := A8_b4.keep K17 (ninS (Ne.symm ne_b1_b4) nin0)
      have Z17 : n0 ≤ T17.heap.size := Nat.le_trans Z8 K17.1
      have N17 := Fr.app N8 N17q
      refine go (fun _ k => st17.trans k) ?_
      show Run _ _ _ _ _ _ _ T17 (mkF m 111 #[.val (.long q0), .second, .val (.long q1), .second, .val (.long q2), .second, .val (.long q3), .second, .val (.int p4), .val (.ref b1), .val (.ref b4), .val (.ref b7), .val (.int (1 : Int32)), .val (.ref b7), .val (.long q0), .second, .val (.long q1), .second, .unset] [])
      refine go (T' := T17) (f' := (mkF m 113 #[.val (.long q0), .second, .val (.long q1), .second, .val (.long q2), .second, .val (.long q3), .second, .val (.int p4), .val (.ref b1), .val (.ref b4), .val (.ref b7), .val (.int (1 : Int32)), .val (.ref b7), .val (.long q0), .second, .val (.long q1), .second, .unset] [(.ref b7)])) (by intro t k; exact XS.aload X17.here hx rfl (hb hby at_111) rfl rfl k) ?_
      show Run _ _ _ _ _ _ _ T17 (mkF m 113 #[.val (.long q0), .second, .val (.long q1), .second, .val (.long q2), .second, .val (.long q3), .second, .val (.int p4), .val (.ref b1), .val (.ref b4), .val (.ref b7), .val (.int (1 : Int32)), .val (.ref b7), .val (.long q0), .second, .val (.long q1), .second, .unset] [(.ref b7)])
      refine go (T' := T17) (f' := (mkF m 114 #[.val (.long q0), .second, .val (.long q1), .second, .val (.long q2), .second, .val (.long q3), .second, .val (.int p4), .val (.ref b1), .val (.ref b4), .val (.ref b7), .val (.int (1 : Int32)), .val (.ref b7), .val (.long q0), .second, .val (.long q1), .second, .unset] [(.int (0 : Int32)), (.ref b7)])) (by intro t k; exact XS.iconst X17.here hx rfl (hb hby at_113) k) ?_
      show Run _ _ _ _ _ _ _ T17 (mkF m 114 #[.val (.long q0), .second, .val (.long q1), .second, .val (.long q2), .second, .val (.long q3), .second, .val (.int p4), .val (.ref b1), .val (.ref b4), .val (.ref b7), .val (.int (1 : Int32)), .val (.ref b7), .val (.long q0), .second, .val (.long q1), .second, .unset] [(.int (0 : Int32)), (.ref b7)])
      obtain ⟨cq18, kq18, q18a, q18b, q18c⟩ := isOf hZ rfl E17_b7
      obtain ⟨_, _, ⟨T18, Lz18, kz18, nz18⟩, -, X18, ⟨Lc18, hQ18, lz18, yz18, zz18⟩, st18⟩ := X17.virtualBack hx (y := (⟨"com/example/barnacle/barnacle/BitArray", "word", "(I)J"⟩ : MethodName)) (z := (⟨"com/example/barnacle/barnacle/BitArray", "word", "(I)J"⟩ : MethodName)) hown (mvT hZ (hw _ (List.mem_of_getElem? (i := 17) rfl))) (mvT hZ (hw _ (List.mem_of_getElem? (i := 18) rfl))) (notFace_of_selects (args := #[]) (mvT hZ (hw _ (List.mem_of_getElem? (i := 20) rfl)))) (mvT hZ (hw _ (List.mem_of_getElem? (i := 20) rfl))) (mvT hZ (hw _ (List.mem_of_getElem? (i := 19) rfl))) (by decide) (backOf (W := 0) (rm4 l Z aw hw [] b7 (0 : Int32) b1 [(.long (q0 ||| q0)), (.long (q1 ||| q1))] (q0 ||| q0) T17.heap n0 Z17 F17_b7_words Aq17 (by decide) rfl) hZ (hw _ (List.mem_of_getElem? (i := 21) rfl)) (hw _ (List.mem_of_getElem? (i := 3) rfl)) (by decide) (by decide)) q18a q18c (g := (mkF m 114 #[.val (.long q0), .second, .val (.long q1), .second, .val (.long q2), .second, .val (.long q3), .second, .val (.int p4), .val (.ref b1), .val (.ref b4), .val (.ref b7), .val (.int (1 : Int32)), .val (.ref b7), .val (.long q0), .second, .val (.long q1), .second, .unset] [(.int (0 : Int32)), (.ref b7)])) rfl (by rw [hml]; rfl) (Steps.refl _) (argsL := [(.int (0 : Int32))]) (rest := []) (lenOf pd_28I29J rfl) rfl (by show 2 * 0 + _ ≤ _; exact Nat.le_of_eq rfl) (hb hby at_114) (fun _ _ => ⟨rfl, rfl, (by decide : 3 + 0 ≤ _), (by decide : 7 + 0 ≤ _)⟩)
      dsimp only [Pt.U, Pt.locs, Pt.cells, Pt.slots] at X18 lz18 yz18 zz18 st18 hQ18
      subst lz18 yz18 zz18
      obtain ⟨rfl, N18q, e18⟩ := hQ18
      have N18 := Fr.app N17 N18q
      refine go (fun _ k => st18.trans k) ?_
      show Run _ _ _ _ _ _ _ T18 (mkF m 117 #[.val (.long q0), .second, .val (.long q1), .second, .val (.long q2), .second, .val (.long q3), .second, .val (.int p4), .val (.ref b1), .val (.ref b4), .val (.ref b7), .val (.int (1 : Int32)), .val (.ref b7), .val (.long q0), .second, .val (.long q1), .second, .unset] [(.long (q0 ||| q0))])
      refine go (T' := T18) (f' := (mkF m 119 #[.val (.long q0), .second, .val (.long q1), .second, .val (.long q2), .second, .val (.long q3), .second, .val (.int p4), .val (.ref b1), .val (.ref b4), .val (.ref b7), .val (.int (1 : Int32)), .val (.ref b7), .val (.long q0), .second, .val (.long q1), .second, .unset] [(.long q0), (.long (q0 ||| q0))])) (by intro t k; exact XS.lload X18.here hx rfl (hb hby at_117) rfl k) ?_
      show Run _ _ _ _ _ _ _ T18 (mkF m 119 #[.val (.long q0), .second, .val (.long q1), .second, .val (.long q2), .second, .val (.long q3), .second, .val (.int p4), .val (.ref b1), .val (.ref b4), .val (.ref b7), .val (.int (1 : Int32)), .val (.ref b7), .val (.long q0), .second, .val (.long q1), .second, .unset] [(.long q0), (.long (q0 ||| q0))])
      refine go (T' := T18) (f' := (mkF m 120 #[.val (.long q0), .second, .val (.long q1), .second, .val (.long q2), .second, .val (.long q3), .second, .val (.int p4), .val (.ref b1), .val (.ref b4), .val (.ref b7), .val (.int (1 : Int32)), .val (.ref b7), .val (.long q0), .second, .val (.long q1), .second, .unset] [(.int (lcmpW (q0 ||| q0) q0))])) (by intro t k; exact XS.lcmp X18.here hx rfl (hb hby at_119) rfl k) ?_
      show Run _ _ _ _ _ _ _ T18 (mkF m 120 #[.val (.long q0), .second, .val (.long q1), .second, .val (.long q2), .second, .val (.long q3), .second, .val (.int p4), .val (.ref b1), .val (.ref b4), .val (.ref b7), .val (.int (1 : Int32)), .val (.ref b7), .val (.long q0), .second, .val (.long q1), .second, .unset] [(.int (lcmpW (q0 ||| q0) q0))])
      refine go (T' := T18) (f' := (mkF m 123 #[.val (.long q0), .second, .val (.long q1), .second, .val (.long q2), .second, .val (.long q3), .second, .val (.int p4), .val (.ref b1), .val (.ref b4), .val (.ref b7), .val (.int (1 : Int32)), .val (.ref b7), .val (.long q0), .second, .val (.long q1), .second, .unset] [])) (by intro t k; exact XS.ifNo X18.here hx rfl (hb hby at_120) rfl ((if0 _ _).trans (teq ((lw_eq _ _).mpr (by first | rfl | exact Int64.or_self : (q0 ||| q0) = q0))).2) k) ?_
      show Run _ _ _ _ _ _ _ T18 (mkF m 123 #[.val (.long q0), .second, .val (.long q1), .second, .val (.long q2), .second, .val (.long q3), .second, .val (.int p4), .val (.ref b1), .val (.ref b4), .val (.ref b7), .val (.int (1 : Int32)), .val (.ref b7), .val (.long q0), .second, .val (.long q1), .second, .unset] [])
      refine go (T' := T18) (f' := (mkF m 125 #[.val (.long q0), .second, .val (.long q1), .second, .val (.long q2), .second, .val (.long q3), .second, .val (.int p4), .val (.ref b1), .val (.ref b4), .val (.ref b7), .val (.int (1 : Int32)), .val (.ref b7), .val (.long q0), .second, .val (.long q1), .second, .unset] [(.ref b7)])) (by intro t k; exact XS.aload X18.here hx rfl (hb hby at_123) rfl rfl k) ?_
      show Run _ _ _ _ _ _ _ T18 (mkF m 125 #[.val (.long q0), .second, .val (.long q1), .second, .val (.long q2), .second, .val (.long q3), .second, .val (.int p4), .val (.ref b1), .val (.ref b4), .val (.ref b7), .val (.int (1 : Int32)), .val (.ref b7), .val (.long q0), .second, .val (.long q1), .second, .unset] [(.ref b7)])
      refine go (T' := T18) (f' := (mkF m 126 #[.val (.long q0), .second, .val (.long q1), .second, .val (.long q2), .second, .val (.long q3), .second, .val (.int p4), .val (.ref b1), .val (.ref b4), .val (.ref b7), .val (.int (1 : Int32)), .val (.ref b7), .val (.long q0), .second, .val (.long q1), .second, .unset] [(.int (1 : Int32)), (.ref b7)])) (by intro t k; exact XS.iconst X18.here hx rfl (hb hby at_125) k) ?_
      show Run _ _ _ _ _ _ _ T18 (mkF m 126 #[.val (.long q0), .second, .val (.long q1), .second, .val (.long q2), .second, .val (.long q3), .second, .val (.int p4), .val (.ref b1), .val (.ref b4), .val (.ref b7), .val (.int (1 : Int32)), .val (.ref b7), .val (.long q0), .second, .val (.long q1), .second, .unset] [(.int (1 : Int32)), (.ref b7)])
      obtain ⟨cq19, kq19, q19a, q19b, q19c⟩ := isOf hZ e18 E17_b7
      obtain ⟨_, _, ⟨T19, Lz19, kz19, nz19⟩, -, X19, ⟨Lc19, hQ19, lz19, yz19, zz19⟩, st19⟩ := X18.virtualBack hx (y := (⟨"com/example/barnacle/barnacle/BitArray", "word", "(I)J"⟩ : MethodName)) (z := (⟨"com/example/barnacle/barnacle/BitArray", "word", "(I)J"⟩ : MethodName)) hown (mvT hZ (hw _ (List.mem_of_getElem? (i := 17) rfl))) (mvT hZ (hw _ (List.mem_of_getElem? (i := 18) rfl))) (notFace_of_selects (args := #[]) (mvT hZ (hw _ (List.mem_of_getElem? (i := 20) rfl)))) (mvT hZ (hw _ (List.mem_of_getElem? (i := 20) rfl))) (mvT hZ (hw _ (List.mem_of_getElem? (i := 19) rfl))) (by decide) (backOf (W := 0) (rm4 l Z aw hw [] b7 (1 : Int32) b1 [(.long (q0 ||| q0)), (.long (q1 ||| q1))] (q1 ||| q1) T17.heap n0 Z17 F17_b7_words Aq17 (by decide) rfl) hZ (hw _ (List.mem_of_getElem? (i := 21) rfl)) (hw _ (List.mem_of_getElem? (i := 3) rfl)) (by decide) (by decide)) q19a q19c (g := (mkF m 126 #[.val (.long q0), .second, .val (.long q1), .second, .val (.long q2), .second, .val (.long q3), .second, .val (.int p4), .val (.ref b1), .val (.ref b4), .val (.ref b7), .val (.int (1 : Int32)), .val (.ref b7), .val (.long q0), .second, .val (.long q1), .second, .unset] [(.int (1 : Int32)), (.ref b7)])) rfl (by rw [hml]; rfl) (Steps.refl _) (argsL := [(.int (1 : Int32))]) (rest := []) (lenOf pd_28I29J rfl) rfl (by show 2 * 0 + _ ≤ _; exact Nat.le_of_eq rfl) (hb hby at_126) (fun _ _ => ⟨rfl, e18, (by decide : 3 + 0 ≤ _), (by decide : 7 + 0 ≤ _)⟩)
      dsimp only [Pt.U, Pt.locs, Pt.cells, Pt.slots] at X19 lz19 yz19 zz19 st19 hQ19
      subst lz19 yz19 zz19
      obtain ⟨rfl, N19q, e19⟩ := hQ19
      have N19 := Fr.app N18 N19q
      refine go (fun _ k => st19.trans k) ?_
      show Run _ _ _ _ _ _ _ T19 (mkF m 129 #[.val (.long q0), .second, .val (.long q1), .second, .val (.long q2), .second, .val (.long q3), .second, .val (.int p4), .val (.ref b1), .val (.ref b4), .val (.ref b7), .val (.int (1 : Int32)), .val (.ref b7), .val (.long q0), .second, .val (.long q1), .second, .unset] [(.long (q1 ||| q1))])
      refine go (T' := T19) (f' := (mkF m 131 #[.val (.long q0), .second, .val (.long q1), .second, .val (.long q2), .second, .val (.long q3), .second, .val (.int p4), .val (.ref b1), .val (.ref b4), .val (.ref b7), .val (.int (1 : Int32)), .val (.ref b7), .val (.long q0), .second, .val (.long q1), .second, .unset] [(.long q1), (.long (q1 ||| q1))])) (by intro t k; exact XS.lload X19.here hx rfl (hb hby at_129) rfl k) ?_
      show Run _ _ _ _ _ _ _ T19 (mkF m 131 #[.val (.long q0), .second, .val (.long q1), .second, .val (.long q2), .second, .val (.long q3), .second, .val (.int p4), .val (.ref b1), .val (.ref b4), .val (.ref b7), .val (.int (1 : Int32)), .val (.ref b7), .val (.long q0), .second, .val (.long q1), .second, .unset] [(.long q1), (.long (q1 ||| q1))])
      refine go (T' := T19) (f' := (mkF m 132 #[.val (.long q0), .second, .val (.long q1), .second, .val (.long q2), .second, .val (.long q3), .second, .val (.int p4), .val (.ref b1), .val (.ref b4), .val (.ref b7), .val (.int (1 : Int32)), .val (.ref b7), .val (.long q0), .second, .val (.long q1), .second, .unset] [(.int (lcmpW (q1 ||| q1) q1))])) (by intro t k; exact XS.lcmp X19.here hx rfl (hb hby at_131) rfl k) ?_
      show Run _ _ _ _ _ _ _ T19 (mkF m 132 #[.val (.long q0), .second, .val (.long q1), .second, .val (.long q2), .second, .val (.long q3), .second, .val (.int p4), .val (.ref b1), .val (.ref b4), .val (.ref b7), .val (.int (1 : Int32)), .val (.ref b7), .val (.long q0), .second, .val (.long q1), .second, .unset] [(.int (lcmpW (q1 ||| q1) q1))])
      refine go (T' := T19) (f' := (mkF m 135 #[.val (.long q0), .second, .val (.long q1), .second, .val (.long q2), .second, .val (.long q3), .second, .val (.int p4), .val (.ref b1), .val (.ref b4), .val (.ref b7), .val (.int (1 : Int32)), .val (.ref b7), .val (.long q0), .second, .val (.long q1), .second, .unset] [])) (by intro t k; exact XS.ifNo X19.here hx rfl (hb hby at_132) rfl ((if0 _ _).trans (teq ((lw_eq _ _).mpr (by first | rfl | exact Int64.or_self : (q1 ||| q1) = q1))).2) k) ?_
      show Run _ _ _ _ _ _ _ T19 (mkF m 135 #[.val (.long q0), .second, .val (.long q1), .second, .val (.long q2), .second, .val (.long q3), .second, .val (.int p4), .val (.ref b1), .val (.ref b4), .val (.ref b7), .val (.int (1 : Int32)), .val (.ref b7), .val (.long q0), .second, .val (.long q1), .second, .unset] [])
      refine go (T' := T19) (f' := (mkF m 136 #[.val (.long q0), .second, .val (.long q1), .second, .val (.long q2), .second, .val (.long q3), .second, .val (.int p4), .val (.ref b1), .val (.ref b4), .val (.ref b7), .val (.int (1 : Int32)), .val (.ref b7), .val (.long q0), .second, .val (.long q1), .second, .unset] [(.int (1 : Int32))])) (by intro t k; exact XS.iconst X19.here hx rfl (hb hby at_135) k) ?_
      show Run _ _ _ _ _ _ _ T19 (mkF m 136 #[.val (.long q0), .second, .val (.long q1), .second, .val (.long q2), .second, .val (.long q3), .second, .val (.int p4), .val (.ref b1), .val (.ref b4), .val (.ref b7), .val (.int (1 : Int32)), .val (.ref b7), .val (.long q0), .second, .val (.long q1), .second, .unset] [(.int (1 : Int32))])
      refine go (T' := T19) (f' := (mkF m 140 #[.val (.long q0), .second, .val (.long q1), .second, .val (.long q2), .second, .val (.long q3), .second, .val (.int p4), .val (.ref b1), .val (.ref b4), .val (.ref b7), .val (.int (1 : Int32)), .val (.ref b7), .val (.long q0), .second, .val (.long q1), .second, .unset] [(.int (1 : Int32))])) (by intro t k; exact XS.goto X19.here hx rfl (pc0 := 136) (pc' := 140) rfl (hb hby at_136) (by decide) (by decide) k) ?_
      show Run _ _ _ _ _ _ _ T19 (mkF m 140 #[.val (.long q0), .second, .val (.long q1), .second, .val (.long q2), .second, .val (.long q3), .second, .val (.int p4), .val (.ref b1), .val (.ref b4), .val (.ref b7), .val (.int (1 : Int32)), .val (.ref b7), .val (.long q0), .second, .val (.long q1), .second, .unset] [(.int (1 : Int32))])
      refine go (T' := T19) (f' := (mkF m 142 #[.val (.long q0), .second, .val (.long q1), .second, .val (.long q2), .second, .val (.long q3), .second, .val (.int p4), .val (.ref b1), .val (.ref b4), .val (.ref b7), .val (.int (1 : Int32)), .val (.ref b7), .val (.long q0), .second, .val (.long q1), .second, .val (.int (1 : Int32))] [])) (by intro t k; exact XS.istore X19.here hx rfl (hb hby at_140) rfl (l' := #[.val (.long q0), .second, .val (.long q1), .second, .val (.long q2), .second, .val (.long q3), .second, .val (.int p4), .val (.ref b1), .val (.ref b4), .val (.ref b7), .val (.int (1 : Int32)), .val (.ref b7), .val (.long q0), .second, .val (.long q1), .second, .val (.int (1 : Int32))]) rfl k) ?_
      show Run _ _ _ _ _ _ _ T19 (mkF m 142 #[.val (.long q0), .second, .val (.long q1), .second, .val (.long q2), .second, .val (.long q3), .second, .val (.int p4), .val (.ref b1), .val (.ref b4), .val (.ref b7), .val (.int (1 : Int32)), .val (.ref b7), .val (.long q0), .second, .val (.long q1), .second, .val (.int (1 : Int32))] [])
      refine go (T' := T19) (f' := (mkF m 144 #[.val (.long q0), .second, .val (.long q1), .second, .val (.long q2), .second, .val (.long q3), .second, .val (.int p4), .val (.ref b1), .val (.ref b4), .val (.ref b7), .val (.int (1 : Int32)), .val (.ref b7), .val (.long q0), .second, .val (.long q1), .second, .val (.int (1 : Int32))] [(.int (1 : Int32))])) (by intro t k; exact XS.iload X19.here hx rfl (hb hby at_142) rfl k) ?_
      show Run _ _ _ _ _ _ _ T19 (mkF m 144 #[.val (.long q0), .second, .val (.long q1), .second, .val (.long q2), .second, .val (.long q3), .second, .val (.int p4), .val (.ref b1), .val (.ref b4), .val (.ref b7), .val (.int (1 : Int32)), .val (.ref b7), .val (.long q0), .second, .val (.long q1), .second, .val (.int (1 : Int32))] [(.int (1 : Int32))])
      refine go (T' := T19) (f' := (mkF m 183 #[.val (.long q0), .second, .val (.long q1), .second, .val (.long q2), .second, .val (.long q3), .second, .val (.int p4), .val (.ref b1), .val (.ref b4), .val (.ref b7), .val (.int (1 : Int32)), .val (.ref b7), .val (.long q0), .second, .val (.long q1), .second, .val (.int (1 : Int32))] [])) (by intro t k; exact XS.ifYes X19.here hx rfl (pc0 := 144) (pc' := 183) rfl (hb hby at_144) rfl ((if0 _ _).trans (feq (by decide : ¬ ((1 : Int32) = (0 : Int32)))).2) (by decide) (by decide) k) ?_
      show Run _ _ _ _ _ _ _ T19 (mkF m 183 #[.val (.long q0), .second, .val (.long q1), .second, .val (.long q2), .second, .val (.long q3), .second, .val (.int p4), .val (.ref b1), .val (.ref b4), .val (.ref b7), .val (.int (1 : Int32)), .val (.ref b7), .val (.long q0), .second, .val (.long q1), .second, .val (.int (1 : Int32))] [])
      refine go (T' := T19) (f' := (mkF m 185 #[.val (.long q0), .second, .val (.long q1), .second, .val (.long q2), .second, .val (.long q3), .second, .val (.int p4), .val (.ref b1), .val (.ref b4), .val (.ref b7), .val (.int (1 : Int32)), .val (.ref b7), .val (.long q0), .second, .val (.long q1), .second, .val (.int (1 : Int32))] [(.int (1 : Int32))])) (by intro t k; exact XS.iload X19.here hx rfl (hb hby at_183) rfl k) ?_
      show Run _ _ _ _ _ _ _ T19 (mkF m 185 #[.val (.long q0), .second, .val (.long q1), .second, .val (.long q2), .second, .val (.long q3), .second, .val (.int p4), .val (.ref b1), .val (.ref b4), .val (.ref b7), .val (.int (1 : Int32)), .val (.ref b7), .val (.long q0), .second, .val (.long q1), .second, .val (.int (1 : Int32))] [(.int (1 : Int32))])
      refine retZ X19 hx (t := .boolean) Bd.returns (by simp) (hb hby at_185) hlk (by decide) (by decide) ?_
      show Q0 Z q0 q1 q2 q3 p4 h0 n0 _ T19.heap _
      rw [e19]
      have hv' : (nar .boolean (1 : Int32)) = (1 : Int32) := by
        rfl
      have hv : (some (.int (nar .boolean (1 : Int32))) : Option Value) = some (.int (1 : Int32)) := congrArg (fun z => (some (.int z) : Option Value)) hv'
      exact ⟨hv, N19⟩
  show Run _ _ _ _ _ _ _ T8 (mkF m 43 #[.val (.long q0), .second, .val (.long q1), .second, .val (.long q2), .second, .val (.long q3), .second, .val (.int p4), .val (.ref b1), .val (.ref b4), .val (.ref b7), .unset, .unset, .unset, .unset, .unset, .unset, .unset] [(.int (p4 &&& (1 : Int32)))])
  by_cases hc43 : (p4 &&& (1 : Int32)) = (0 : Int32)
  · refine go (T' := T8) (f' := (mkF m 50 #[.val (.long q0), .second, .val (.long q1), .second, .val (.long q2), .second, .val (.long q3), .second, .val (.int p4), .val (.ref b1), .val (.ref b4), .val (.ref b7), .unset, .unset, .unset, .unset, .unset, .unset, .unset] [])) (by intro t k; exact XS.ifYes X8.here hx rfl (pc0 := 43) (pc' := 50) rfl (hb hby at_43) rfl ((if0 _ _).trans (teq hc43).1) (by decide) (by decide) k) ?_
    show Run _ _ _ _ _ _ _ T8 (mkF m 50 #[.val (.long q0), .second, .val (.long q1), .second, .val (.long q2), .second, .val (.long q3), .second, .val (.int p4), .val (.ref b1), .val (.ref b4), .val (.ref b7), .unset, .unset, .unset, .unset, .unset, .unset, .unset] [])
    refine go (T' := T8) (f' := (mkF m 51 #[.val (.long q0), .second, .val (.long q1), .second, .val (.long q2), .second, .val (.long q3), .second, .val (.int p4), .val (.ref b1), .val (.ref b4), .val (.ref b7), .unset, .unset, .unset, .unset, .unset, .unset, .unset] [(.int (0 : Int32))])) (by intro t k; exact XS.iconst X8.here hx rfl (hb hby at_50) k) ?_
    have ez9 : z9 = (0 : Int32) := (hz9).trans (if_pos hc43)
    subst ez9
    exact J43
  · refine go (T' := T8) (f' := (mkF m 46 #[.val (.long q0), .second, .val (.long q1), .second, .val (.long q2), .second, .val (.long q3), .second, .val (.int p4), .val (.ref b1), .val (.ref b4), .val (.ref b7), .unset, .unset, .unset, .unset, .unset, .unset, .unset] [])) (by intro t k; exact XS.ifNo X8.here hx rfl (hb hby at_43) rfl ((if0 _ _).trans (feq hc43).1) k) ?_
    show Run _ _ _ _ _ _ _ T8 (mkF m 46 #[.val (.long q0), .second, .val (.long q1), .second, .val (.long q2), .second, .val (.long q3), .second, .val (.int p4), .val (.ref b1), .val (.ref b4), .val (.ref b7), .unset, .unset, .unset, .unset, .unset, .unset, .unset] [])
    refine go (T' := T8) (f' := (mkF m 47 #[.val (.long q0), .second, .val (.long q1), .second, .val (.long q2), .second, .val (.long q3), .second, .val (.int p4), .val (.ref b1), .val (.ref b4), .val (.ref b7), .unset, .unset, .unset, .unset, .unset, .unset, .unset] [(.int (1 : Int32))])) (by intro t k; exact XS.iconst X8.here hx rfl (hb hby at_46) k) ?_
    show Run _ _ _ _ _ _ _ T8 (mkF m 47 #[.val (.long q0), .second, .val (.long q1), .second, .val (.long q2), .second, .val (.long q3), .second, .val (.int p4), .val (.ref b1), .val (.ref b4), .val (.ref b7), .unset, .unset, .unset, .unset, .unset, .unset, .unset] [(.int (1 : Int32))])
    refine go (T' := T8) (f' := (mkF m 51 #[.val (.long q0), .second, .val (.long q1), .second, .val (.long q2), .second, .val (.long q3), .second, .val (.int p4), .val (.ref b1), .val (.ref b4), .val (.ref b7), .unset, .unset, .unset, .unset, .unset, .unset, .unset] [(.int (1 : Int32))])) (by intro t k; exact XS.goto X8.here hx rfl (pc0 := 47) (pc' := 51) rfl (hb hby at_47) (by decide) (by decide) k) ?_
    have ez9 : z9 = (1 : Int32) := (hz9).trans (if_neg hc43)
    subst ez9
    exact J43
set_option maxRecDepth 65536 in
set_option maxHeartbeats 40000000 in
theorem comes_1 {Post : Tables → Env → Array Value → State → Outcome → State → Prop} (hpost : ∀ tb e args s v u, (limb_1_1.after args s (.returned v) u = true ∧ limb_1_2.after args s (.returned v) u = true ∧ True) → FrameEnd s (.returned v) u (Jvm.fieldLocs frame_1_writes args s ++ Jvm.arrayLocs frame_1_arrays args s ++ Jvm.staticLocs frame_1_statics s) 16 128 → Post tb e args s (.returned v) u) :
    ArmFor flags0 classFile x code maxLocals ret World_1 tables_1 room_1 Calls_1 rest_1 Pre_1 Post := by
  intro l hfl _ _ p e ha hc hk s m args below hf hA hF happ hP
  obtain ⟨hcalls, hrest, hpre⟩ := hP
  obtain ⟨-, -, -, hnamed, -, -, -, hat⟩ := (Spec.applies_iff hf).mp happ
  obtain ⟨hg, hn⟩ := and_e (Cond.before_iff.mp (show (Jvm.Cond.and given_1 narrow_1).before args s = true from hpre))
  obtain ⟨g1, g2⟩ := and_e hg
  obtain ⟨g3, g4⟩ := and_e g2
  obtain ⟨g5, g6⟩ := and_e g4
  obtain ⟨g7, g8⟩ := and_e g6
  obtain ⟨g9, g10⟩ := and_e g8
  obtain ⟨w0, w1, w2, w3, w4, rfl⟩ : ∃ w0 w1 w2 w3 w4 : Value, args = #[w0, w1, w2, w3, w4] := by
    have hs : args.size = 5 := by simpa [Cond.value, given_1] using g1
    obtain ⟨L⟩ := args
    match L, hs with
    | [w0, w1, w2, w3, w4], _ => exact ⟨w0, w1, w2, w3, w4, rfl⟩
  have hw := fun d (hd : d ∈ tables_1) => atoms_spec (ws := Jvm.Cond.code x code maxLocals ret :: tables_1) hat d (List.mem_cons_of_mem _ hd)
  have hfit : Fit s := fun {y c} hc i hi => by
    obtain ⟨ha, rfl⟩ := Array.getElem?_eq_some_iff.mp hc
    have q := List.all_eq_true.mp ((Array.all_eq_true_iff_forall_mem.mp hF) _ (Array.getElem_mem ha)) i (List.mem_range.mpr hi)
    simpa [Array.getElem?_eq_getElem hi] using q
  obtain ⟨i0, ei0⟩ := isL_v g3
  obtain rfl : w0 = (.long i0) := Option.some.inj ei0
  obtain ⟨i1, ei1⟩ := isL_v g5
  obtain rfl : w1 = (.long i1) := Option.some.inj ei1
  obtain ⟨i2, ei2⟩ := isL_v g7
  obtain rfl : w2 = (.long i2) := Option.some.inj ei2
  obtain ⟨i3, ei3⟩ := isL_v g9
  obtain rfl : w3 = (.long i3) := Option.some.inj ei3
  obtain ⟨i4, ei4⟩ := is_v g10
  obtain rfl : w4 = (.int i4) := Option.some.inj ei4
  obtain ⟨n, o, h1, h2, h3, _, L, rfl, ⟨rfl, N⟩, hq⟩ := rm0 l s _ hw tables_1 i0 i1 i2 i3 i4 s.heap s.heap.size (Nat.le_refl _) p e ha hc hk s m _ below hf ((Spec.applies_iff_loose hf).mp happ).1 ⟨rfl, State.Warmed39.refl s, rfl⟩ trivial
  refine ⟨n, _, h1, h2, h3, hpost _ _ _ _ _ _ ⟨Cond.after_iff.mpr rfl, Cond.after_iff.mpr (eq_i res_at (Term.int_eval (1)) rfl), trivial⟩ ⟨hq.1, hq.2.1, (hq.2.2.sift fun y hy => Or.inr (N y hy)).mono (by decide) (by decide)⟩⟩
theorem main_1_1 : Claimed_1_1 := comes_1 fun _ _ _ _ _ _ h hF => ⟨h.1, hF⟩
theorem main_1_2 : Claimed_1_2 := comes_1 fun _ _ _ _ _ _ h hF => ⟨h.2.1, hF⟩
end Jvm.Pilot.@@N@@
namespace Jvm.Pilot.@@N@@
open Jvm Jvm.ClassFile Sem Op Lib Jvm.Free Jvm.Stand Jvm.Pilot.@@N@@.Jvm.D
/-! MADE BY PROGRAM (witnessworld.py) out of the Statement's table words and the real class files: 11 classes; the members and pool entries that the words name. The judged class is class 1, her method 1. -/
namespace start1
open Jvm.ClassFile
def u (s : String) : CpInfo := .utf8 (stringToUtf16 s)
/-- a pool by its gaps: so many unusable entries, then the entry; so many at the end -/
def gap : Nat → List CpInfo → List CpInfo
  | 0, r => r
  | n + 1, r => .unusable :: gap n r
def poolList (es : List (Nat × CpInfo)) (last : Nat) : List CpInfo := es.foldr (fun e r => gap e.1 (e.2 :: r)) (gap last [])
def pool (es : List (Nat × CpInfo)) (last : Nat) : Array CpInfo := ⟨poolList es last⟩
def fileOf (pool : Array CpInfo) (this : Nat) (attrs : Array Attribute := #[]) (ms : Array MethodInfo := #[]) (fl : Nat := 33) (sup : Nat := 0) (ifs : Array Nat := #[]) (fds : Array FieldInfo := #[]) : ClassFile where
  minorVersion := 0
  majorVersion := 65
  constantPool := pool
  accessFlags := fl
  thisClass := this
  superClass := sup
  interfaces := ifs
  fields := fds
  methods := ms
  attributes := attrs
def plain (name : String) (sup : Option ClassId) : Class where
  name := name
  kind := .ordinary
  loader := none
  accessFlags := 33
  super := sup
  interfaces := #[]
  cf := none
  fields := #[]
  methods := #[]
  instanceTypes := #[]
  staticTypes := #[]
  resolved := #[]
  callSites := []
  init := .initialized
  statics := none
  mirror := none

def pool0 : Array CpInfo := pool [(5, u "<init>"), (0, u "()V"), (1, .class_ 10), (1, u "java/lang/Object")] 113

def k0c0 : Code := { maxStack := 0, maxLocals := 1, code := object_method_1_code, exceptionTable := #[], attributes := #[] }
def k0m0 : Method := { name := "<init>", desc := "()V", sig := { parameters := [], returnType := none }, accessFlags := 1, code := some k0c0 }
/-- java/lang/Object -/
def k0 : Class := { plain "java/lang/Object" none with
  accessFlags := 33
  interfaces := #[]
  cf := some (fileOf pool0 8 #[] #[{ accessFlags := 1, nameIndex := 5, descriptorIndex := 6, attributes := #[] }] 33 0 #[] #[])
  fields := #[]
  methods := #[k0m0]
  instanceTypes := #[]
  staticTypes := #[]
  resolved := Array.replicate 124 none
  statics := none }

def pool1 : Array CpInfo := pool [(2, .class_ 4), (1, u "java/lang/Object"), (0, u "<init>"), (0, u "()V"), (0, .class_ 8), (0, u "com/example/barnacle/barnacle/BitArray"), (0, .methodref 7 10), (0, .nameAndType 5 11), (0, u "([J)V"), (0, .methodref 7 13), (0, .nameAndType 14 15), (0, u site_108.name), (0, u "(Lcom/example/barnacle/barnacle/BitArray;)V"), (0, .methodref 7 17), (0, .nameAndType 18 19), (0, u "word"), (0, u "(I)J"), (0, .class_ 21), (0, u "com/example/barnacle/barnacle/BitArrayIncludePinLaw"), (2, u "law"), (0, u "(JJJJI)Z")] 5

def k1m0 : Method := { name := "<init>", desc := "()V", sig := { parameters := [], returnType := none }, accessFlags := 1, code := none }
def k1c1 : Code := { maxStack := 5, maxLocals := 19, code := code, exceptionTable := #[], attributes := #[] }
def k1m1 : Method := { name := "law", desc := "(JJJJI)Z", sig := { parameters := [.long, .long, .long, .long, .int], returnType := some .boolean }, accessFlags := 9, code := some k1c1 }
/-- com/example/barnacle/barnacle/BitArrayIncludePinLaw -/
def k1 : Class := { plain "com/example/barnacle/barnacle/BitArrayIncludePinLaw" (some 0) with
  accessFlags := 49
  interfaces := #[]
  cf := some (fileOf pool1 20 #[] #[{ accessFlags := 1, nameIndex := 5, descriptorIndex := 6, attributes := #[] }, { accessFlags := 9, nameIndex := 24, descriptorIndex := 25, attributes := #[] }] 49 2 #[] #[])
  fields := #[]
  methods := #[k1m0, k1m1]
  instanceTypes := #[]
  staticTypes := #[]
  resolved := Array.replicate 31 none
  statics := none }

def pool2 : Array CpInfo := pool [(1, .methodref 2 3), (0, .class_ 4), (0, .nameAndType 5 6), (0, u "java/lang/Object"), (0, u "<init>"), (0, u "()V"), (1, .class_ 10), (1, u "com/example/barnacle/barnacle/BitArray"), (2, .fieldref 8 14), (0, .nameAndType 15 16), (0, u "words"), (0, u "[J"), (2, u "WORD"), (0, u "Ljava/lang/invoke/VarHandle;"), (11, u "turn"), (0, u "I"), (2, u "closing"), (0, u "Z"), (2, u "TURN"), (42, .class_ 84), (0, u "com/example/barnacle/barnacle/BitArray$BitCounts"), (19, u "([J)V"), (43, u "FREE"), (2, u "TAKEN"), (1, u "SHARED"), (1, u "SPINS_BEFORE_YIELDING"), (1, u "UNROLLED"), (13, u "word"), (0, u "(I)J"), (6, u site_108.name), (0, u "(Lcom/example/barnacle/barnacle/BitArray;)V")] 29

def k2c0 : Code := { maxStack := 2, maxLocals := 2, code := prog_3_method_2_code, exceptionTable := #[], attributes := #[] }
def k2m0 : Method := { name := "<init>", desc := "([J)V", sig := { parameters := [(.array .long)], returnType := none }, accessFlags := 0, code := some k2c0 }
def k2c1 : Code := { maxStack := 2, maxLocals := 2, code := prog_3_method_11_code, exceptionTable := #[], attributes := #[] }
def k2m1 : Method := { name := "word", desc := "(I)J", sig := { parameters := [.int], returnType := some .long }, accessFlags := 0, code := some k2c1 }
def k2c2 : Code := { maxStack := 6, maxLocals := 3, code := prog_3_method_16_code, exceptionTable := #[], attributes := #[] }
def k2m2 : Method := { name := site_108.name, desc := "(Lcom/example/barnacle/barnacle/BitArray;)V", sig := { parameters := [(.object "com/example/barnacle/barnacle/BitArray")], returnType := none }, accessFlags := 0, code := some k2c2 }
/-- com/example/barnacle/barnacle/BitArray -/
def k2 : Class := { plain "com/example/barnacle/barnacle/BitArray" (some 0) with
  accessFlags := 48
  interfaces := #[]
  cf := some (fileOf pool2 8 #[.nestMembers #[83]] #[{ accessFlags := 0, nameIndex := 5, descriptorIndex := 104, attributes := #[] }, { accessFlags := 0, nameIndex := 171, descriptorIndex := 172, attributes := #[] }, { accessFlags := 0, nameIndex := 179, descriptorIndex := 180, attributes := #[] }] 48 2 #[] #[{ accessFlags := 26, nameIndex := 19, descriptorIndex := 20, attributes := #[] }, { accessFlags := 26, nameIndex := 40, descriptorIndex := 20, attributes := #[] }, { accessFlags := 26, nameIndex := 148, descriptorIndex := 33, attributes := #[] }, { accessFlags := 26, nameIndex := 151, descriptorIndex := 33, attributes := #[] }, { accessFlags := 26, nameIndex := 153, descriptorIndex := 33, attributes := #[] }, { accessFlags := 26, nameIndex := 155, descriptorIndex := 33, attributes := #[] }, { accessFlags := 26, nameIndex := 157, descriptorIndex := 33, attributes := #[] }, { accessFlags := 18, nameIndex := 15, descriptorIndex := 16, attributes := #[] }, { accessFlags := 66, nameIndex := 32, descriptorIndex := 33, attributes := #[] }, { accessFlags := 66, nameIndex := 36, descriptorIndex := 37, attributes := #[] }])
  fields := #[{ name := "WORD", type := (.object "java/lang/invoke/VarHandle"), accessFlags := 26, slot := 0, constantValue := 0 }, { name := "TURN", type := (.object "java/lang/invoke/VarHandle"), accessFlags := 26, slot := 1, constantValue := 0 }, { name := "FREE", type := .int, accessFlags := 26, slot := 2, constantValue := 0 }, { name := "TAKEN", type := .int, accessFlags := 26, slot := 3, constantValue := 0 }, { name := "SHARED", type := .int, accessFlags := 26, slot := 4, constantValue := 0 }, { name := "SPINS_BEFORE_YIELDING", type := .int, accessFlags := 26, slot := 5, constantValue := 0 }, { name := "UNROLLED", type := .int, accessFlags := 26, slot := 6, constantValue := 0 }, { name := "words", type := (.array .long), accessFlags := 18, slot := 0, constantValue := 0 }, { name := "turn", type := .int, accessFlags := 66, slot := 1, constantValue := 0 }, { name := "closing", type := .boolean, accessFlags := 66, slot := 2, constantValue := 0 }]
  methods := #[k2m0, k2m1, k2m2]
  instanceTypes := #[(.array .long), .int, .boolean]
  staticTypes := #[(.object "java/lang/invoke/VarHandle"), (.object "java/lang/invoke/VarHandle"), .int, .int, .int, .int, .int]
  resolved := Array.replicate 210 none
  statics := none }

def pool3 : Array CpInfo := pool [(1, u "java/lang/Cloneable"), (0, .class_ 1), (0, u "java/lang/Object"), (0, .class_ 3)] 3

/-- java/lang/Cloneable -/
def k3 : Class := { plain "java/lang/Cloneable" (some 0) with
  accessFlags := 1537
  interfaces := #[]
  cf := some (fileOf pool3 2 #[] #[] 1537 4 #[] #[])
  fields := #[]
  methods := #[]
  instanceTypes := #[]
  staticTypes := #[]
  resolved := Array.replicate 8 none
  statics := none }

def pool4 : Array CpInfo := pool [(1, u "java/io/Serializable"), (0, .class_ 1), (0, u "java/lang/Object"), (0, .class_ 3)] 3

/-- java/io/Serializable -/
def k4 : Class := { plain "java/io/Serializable" (some 0) with
  accessFlags := 1537
  interfaces := #[]
  cf := some (fileOf pool4 2 #[] #[] 1537 4 #[] #[])
  fields := #[]
  methods := #[]
  instanceTypes := #[]
  staticTypes := #[]
  resolved := Array.replicate 8 none
  statics := none }

/-- the primitive byte -/
def k5 : Class := { plain "byte" none with kind := .primitive 'B', accessFlags := 0x411 }
/-- [B -/
def k6 : Class := { plain "[B" (some 0) with kind := .array 5 .byte, interfaces := #[3, 4], accessFlags := 1041 }

/-- the primitive int -/
def k7 : Class := { plain "int" none with kind := .primitive 'I', accessFlags := 0x411 }
/-- [I -/
def k8 : Class := { plain "[I" (some 0) with kind := .array 7 .int, interfaces := #[3, 4], accessFlags := 1041 }

/-- the primitive long -/
def k9 : Class := { plain "long" none with kind := .primitive 'J', accessFlags := 0x411 }
/-- [J -/
def k10 : Class := { plain "[J" (some 0) with kind := .array 9 .long, interfaces := #[3, 4], accessFlags := 1041 }

def heap : Heap := #[]
def classes : Array Class := #[k0, k1, k2, k3, k4, k5, k6, k7, k8, k9, k10]
def interned : List (Array UInt16 × Addr) := []
def slotsUsed : Nat := 0
def theMethod : MethodId := ⟨1, 1⟩
def args0 : Array Value := #[.long 5, .long 6, .long 7, .long 8, .int 4]
def aboutOver (below : List Frame) : State where
  vm := { classes := classes, interned := interned.toArray }
  heap := heap
  slotsUsed := slotsUsed
  threads := #[{ frames := .invoking theMethod args0 :: below }]
def below0 : List Frame := [.native { method := ⟨0, 0⟩, args := #[] }]
def about1 : State := aboutOver below0
def p0 : Program := .bare "" "" ""
def e0 : Env := launch0.env 0 0 0
theorem w_frames : about1.frames = Frame.invoking theMethod args0 :: below0 := rfl
set_option maxRecDepth 65536 in
theorem w_args : argsFit about1.vm theMethod args0 = true := by decide +kernel
set_option maxRecDepth 65536 in
theorem w_heap : heapFits about1 = true := by decide +kernel
set_option maxRecDepth 65536 in
theorem w_runnable : about1.curStatus? = some .runnable := by decide +kernel
set_option maxRecDepth 65536 in
theorem w_alone : about1.alone = true := by decide +kernel
set_option maxRecDepth 65536 in
theorem w_named : about1.methodNamed? x = some theMethod := by decide +kernel
set_option maxRecDepth 65536 in
theorem w_hears : about1.hears theMethod below0 = true := by decide +kernel
set_option maxRecDepth 65536 in
theorem w_ripe : about1.ripe theMethod args0 below0 = true := by decide +kernel
theorem w_running : about1.status = .running := rfl
set_option maxRecDepth 65536 in
theorem w_room : about1.hasRoom e0.platform room_1 = true :=
  launch0.hasRoom_least _ room_1 (by decide +kernel) (by decide +kernel) (by decide +kernel) (by decide +kernel) (by decide +kernel) (by decide +kernel)
theorem allAtoms_all (ts : List Jvm.Cond) (a : Array Jvm.Value) (st : Jvm.State) : (allAtoms ts).before a st = ts.all (fun c => c.before a st) := by
  induction ts with
  | nil => rfl
  | cons c t ih =>
    show (Jvm.Cond.and c (allAtoms t)).before a st = _
    rw [Jvm.Cond.before_and, ih, List.all_cons]
def words1 : List Jvm.Cond := Jvm.Cond.code x code maxLocals ret :: tables_1
/-- a 'code' word, met by the world's own term for the bytes: nothing is compared byte by byte -/
theorem code_word {y : MethodName} {bytes : ByteArray} {mx : Nat} {rt : Option FieldType} {a : Array Value} {s : State} {m : MethodId} {meth : Method} {c : Code} (h1 : s.methodNamed? y = some m) (h2 : s.vm.method? m = some meth) (h3 : meth.code = some c) (h4 : c.code = bytes)
    (h5 : (c.maxLocals == mx && c.exceptionTable.isEmpty && decide (c.maxStack ≤ mostOperands) && decide (meth.sig.returnType = rt) && !meth.locks && decide (parseMethodDescriptor y.desc = some meth.sig)) = true) : (Jvm.Cond.code y bytes mx rt).before a s = true := by
  simp only [Bool.and_eq_true, beq_iff_eq, Bool.not_eq_true', decide_eq_true_eq] at h5
  obtain ⟨⟨⟨⟨⟨g1, g2⟩, g3⟩, g4⟩, g5⟩, g6⟩ := h5
  simp [Cond.before, Cond.holds, Cond.value, h1, h2, h3, h4, g1, g2, g3, g4, g5, g6]
def isCode : Jvm.Cond → Bool
  | .code _ _ _ _ => true
  | _ => false
theorem all_split {L : List Jvm.Cond} {P : Jvm.Cond → Bool} (h1 : L.all (fun c => isCode c || P c) = true) (h2 : ∀ c ∈ L.filter isCode, P c = true) : L.all P = true := by
  refine List.all_eq_true.mpr fun c hc => ?_
  have h := List.all_eq_true.mp h1 c hc
  rcases Bool.eq_false_or_eq_true (isCode c) with hi | hi
  · exact h2 c (List.mem_filter.mpr ⟨hc, hi⟩)
  · simpa [hi] using h
set_option maxRecDepth 65536 in
theorem w_c0 : (Jvm.Cond.code x code maxLocals ret).before args0 about1 = true := code_word (m := ⟨1, 1⟩) (meth := k1m1) (c := k1c1) (by decide +kernel) rfl rfl rfl (by decide +kernel)
set_option maxRecDepth 65536 in
theorem w_c1 : (Jvm.Cond.code ({ cls := "com/example/barnacle/barnacle/BitArray", name := "<init>", desc := "([J)V" } : Jvm.MethodName) prog_3_method_2_code (2 : Nat) (Option.none : Option Jvm.ClassFile.FieldType)).before args0 about1 = true := code_word (m := ⟨2, 0⟩) (meth := k2m0) (c := k2c0) (by decide +kernel) rfl rfl rfl (by decide +kernel)
set_option maxRecDepth 65536 in
theorem w_c2 : (Jvm.Cond.code ({ cls := "java/lang/Object", name := "<init>", desc := "()V" } : Jvm.MethodName) object_method_1_code (1 : Nat) (Option.none : Option Jvm.ClassFile.FieldType)).before args0 about1 = true := code_word (m := ⟨0, 0⟩) (meth := k0m0) (c := k0c0) (by decide +kernel) rfl rfl rfl (by decide +kernel)
set_option maxRecDepth 65536 in
theorem w_c3 : (Jvm.Cond.code ({ cls := "com/example/barnacle/barnacle/BitArray", name := site_108.name, desc := "(Lcom/example/barnacle/barnacle/BitArray;)V" } : Jvm.MethodName) prog_3_method_16_code (3 : Nat) (Option.none : Option Jvm.ClassFile.FieldType)).before args0 about1 = true := code_word (m := ⟨2, 2⟩) (meth := k2m2) (c := k2c2) (by decide +kernel) rfl rfl rfl (by decide +kernel)
set_option maxRecDepth 65536 in
theorem w_c4 : (Jvm.Cond.code ({ cls := "com/example/barnacle/barnacle/BitArray", name := "word", desc := "(I)J" } : Jvm.MethodName) prog_3_method_11_code (2 : Nat) (Option.some Jvm.ClassFile.FieldType.long)).before args0 about1 = true := code_word (m := ⟨2, 1⟩) (meth := k2m1) (c := k2c1) (by decide +kernel) rfl rfl rfl (by decide +kernel)
def codes1 : List Jvm.Cond := [Jvm.Cond.code x code maxLocals ret, Jvm.Cond.code ({ cls := "com/example/barnacle/barnacle/BitArray", name := "<init>", desc := "([J)V" } : Jvm.MethodName) prog_3_method_2_code (2 : Nat) (Option.none : Option Jvm.ClassFile.FieldType), Jvm.Cond.code ({ cls := "java/lang/Object", name := "<init>", desc := "()V" } : Jvm.MethodName) object_method_1_code (1 : Nat) (Option.none : Option Jvm.ClassFile.FieldType), Jvm.Cond.code ({ cls := "com/example/barnacle/barnacle/BitArray", name := site_108.name, desc := "(Lcom/example/barnacle/barnacle/BitArray;)V" } : Jvm.MethodName) prog_3_method_16_code (3 : Nat) (Option.none : Option Jvm.ClassFile.FieldType), Jvm.Cond.code ({ cls := "com/example/barnacle/barnacle/BitArray", name := "word", desc := "(I)J" } : Jvm.MethodName) prog_3_method_11_code (2 : Nat) (Option.some Jvm.ClassFile.FieldType.long)]
set_option maxRecDepth 65536 in
theorem codes_eq : words1.filter isCode = codes1 := rfl
theorem w_codes : ∀ c ∈ words1.filter isCode, c.before args0 about1 = true := by
  rw [codes_eq]
  intro c hc
  simp only [codes1, List.mem_cons, List.not_mem_nil, or_false] at hc
  rcases hc with rfl | rfl | rfl | rfl | rfl
  · exact w_c0
  · exact w_c1
  · exact w_c2
  · exact w_c3
  · exact w_c4
set_option maxRecDepth 65536 in
theorem w_t1 : words1.all (fun c => isCode c || c.before args0 about1) = true := by decide +kernel
theorem w_tables : (allAtoms (Jvm.Cond.code x code maxLocals ret :: tables_1)).before args0 about1 = true := by
  rw [allAtoms_all]
  show words1.all (fun c => c.before args0 about1) = true
  refine all_split ?_ w_codes
  rw [w_t1]
set_option maxRecDepth 65536 in
theorem w_case : (Jvm.Cond.and given_1 narrow_1).before args0 about1 = true := by decide +kernel
theorem w_applies : (headSpec (Jvm.Cond.code x code maxLocals ret :: tables_1) room_1).applies x e0.platform about1 = true :=
  (Spec.applies_iff w_frames).mpr ⟨w_running, w_runnable, w_alone, w_named, w_hears, w_ripe, w_room, w_tables⟩
theorem atStart : AtStart classFile x code maxLocals ret World_1 tables_1 room_1 Calls_1 rest_1 Pre_1 launch0 p0 e0 about1 theMethod args0 below0 :=
  ⟨lists_1, trivial, launch0.admits_env _ _ _, launch0.least_env, fairChoices_fair.cas, fairChoices_fair.clock, w_frames, w_args, w_heap, w_applies, trivial, trivial, w_case⟩
end start1
theorem witness_1 : WitnessClaimed_1 := ⟨start1.p0, start1.e0, start1.about1, start1.theMethod, start1.args0, start1.below0, start1.atStart⟩
end Jvm.Pilot.@@N@@
