import JvmDerived
import JvmDerived.Pilot.@@N@@Statement
import JvmDerived.Pilot.@@N@@Code
set_option linter.unusedVariables false
set_option linter.unusedSimpArgs false
namespace Jvm.Own
open Sem ClassFile Op Lib Jvm.Stand Jvm.Free Jvm.LawKit Jvm.RoadKit
/-- from the frame f over T the run ends in a return that Q speaks of -/
def Run (p : Program) (e : Env) (s : State) (below : List Frame) (Q : Option Value → Heap → List Loc → Prop) (cm sm : Nat) (T : State) (f : JFrame) : Prop :=
  ∃ s₂ o, Steps p.tables e below (T.setTop f) s₂ ∧ s₂.status = .running ∧ Ended s₂ below o ∧ ∃ v L, o = .returned v ∧ Q v s₂.heap L ∧ FrameEnd s o s₂ L cm sm
section Own
variable {p : Program} {l : Launch} {e : Env} {R : Room} {s : State} {m : MethodId} {args : Array Value} {below : List Frame} {meth : Method} {c : Code} {T : State} {locs : List Loc} {cells slots : Nat} {Q : Option Value → Heap → List Loc → Prop} {cm sm : Nat}
theorem go {T' : State} {f f' : JFrame} (st : ∀ target, Steps p.tables e below (T'.setTop f') target → Steps p.tables e below (T.setTop f) target) (k : Run p e s below Q cm sm T' f') : Run p e s below Q cm sm T f := by
  obtain ⟨s₂, o, h, r⟩ := k
  exact ⟨s₂, o, st _ h, r⟩
theorem retZ (X : Stand p l e R s m args below meth c T locs cells slots) (hx : p.tables.exec = Jvm.exec) {pc : Nat} {Ls : Array Slot} {z : Int32} {t : FieldType} {rest : List Value} (hret : meth.sig.returnType = some t) (ht : t = .boolean ∨ t = .byte ∨ t = .char ∨ t = .short)
    (hd : decode c.code pc = .ok (.ireturn, 1)) (hlk : meth.locks = false) (hc : cells ≤ cm) (hs : slots ≤ sm) (hq : Q (some (.int (nar t z))) T.heap locs) : Run p e s below Q cm sm T (mkF m pc Ls (.int z :: rest)) := by
  obtain ⟨fs, hr, hrun, hended, hW, hsame⟩ := X.leave (v := some (.int (nar t z))) (fun h => by rw [hret] at h; cases h) hlk
  exact ⟨_, _, retN X hx hret ht hd hr, hrun, hended, _, _, rfl, hq, ⟨_, rfl⟩, hW, hsame.mono hc hs⟩
theorem retW (X : Stand p l e R s m args below meth c T locs cells slots) (hx : p.tables.exec = Jvm.exec) {pc : Nat} {Ls : Array Slot} {w : Value} {t : FieldType} {i : Instr} {rest : List Value} (hret : meth.sig.returnType = some t) (hn : narrow t w = w)
    (hi : (i = .ireturn ∧ (t = .int ∨ t = .boolean ∨ t = .byte ∨ t = .char ∨ t = .short) ∧ ∃ z, w = .int z) ∨ (i = .lreturn ∧ t = .long ∧ ∃ z, w = .long z) ∨ (i = .dreturn ∧ t = .double ∧ ∃ z, w = .double z) ∨ (i = .freturn ∧ t = .float ∧ ∃ z, w = .float z) ∨ (i = .areturn ∧ t.isReference = true ∧ w.isRef = true))
    (hd : decode c.code pc = .ok (i, 1)) (hlk : meth.locks = false) (hc : cells ≤ cm) (hs : slots ≤ sm) (hq : Q (some w) T.heap locs) : Run p e s below Q cm sm T (mkF m pc Ls (w :: rest)) := by
  obtain ⟨fs, hr, hrun, hended, hW, hsame⟩ := X.leave (v := some w) (fun h => by rw [hret] at h; cases h) hlk
  exact ⟨_, _, retOut X hx hret hn hi hd hr, hrun, hended, _, _, rfl, hq, ⟨_, rfl⟩, hW, hsame.mono hc hs⟩
theorem retV (X : Stand p l e R s m args below meth c T locs cells slots) (hx : p.tables.exec = Jvm.exec) {pc : Nat} {Ls : Array Slot} (hret : meth.sig.returnType = none)
    (hd : decode c.code pc = .ok (.return_, 1)) (hlk : meth.locks = false) (hc : cells ≤ cm) (hs : slots ≤ sm) (hq : Q none T.heap locs) : Run p e s below Q cm sm T (mkF m pc Ls []) := by
  obtain ⟨fs, hr, hrun, hended, hW, hsame⟩ := X.leave (v := none) (fun _ => rfl) hlk
  exact ⟨_, _, X.returnOut hx hret hd hr, hrun, hended, _, _, rfl, hq, ⟨_, rfl⟩, hW, hsame.mono hc hs⟩
/-- the same, where Strings may have been interned -/
def RunW (p : Program) (e : Env) (s : State) (below : List Frame) (Q : Option Value → Heap → List Loc → Prop) (cm sm : Nat) (T : State) (f : JFrame) : Prop :=
  ∃ s₂ o, Steps p.tables e below (T.setTop f) s₂ ∧ s₂.status = .running ∧ Ended s₂ below o ∧ ∃ v L, o = .returned v ∧ Q v s₂.heap L ∧ ReturnedEndW s o s₂ L cm sm
theorem goW {T' : State} {f f' : JFrame} (st : ∀ target, Steps p.tables e below (T'.setTop f') target → Steps p.tables e below (T.setTop f) target) (k : RunW p e s below Q cm sm T' f') : RunW p e s below Q cm sm T f := by
  obtain ⟨s₂, o, h, r⟩ := k
  exact ⟨s₂, o, st _ h, r⟩
theorem retZW {vm₁ : Vm} (X : Stand p l e R (s.setVm vm₁) m args below meth c T locs cells slots) {n : Nat} (hS : s.Since vm₁ n) (hn : n ≤ T.heap.size) (hx : p.tables.exec = Jvm.exec) {pc : Nat} {Ls : Array Slot} {z : Int32} {t : FieldType} {rest : List Value} (hret : meth.sig.returnType = some t) (ht : t = .boolean ∨ t = .byte ∨ t = .char ∨ t = .short)
    (hd : decode c.code pc = .ok (.ireturn, 1)) (hlk : meth.locks = false) (hc : cells ≤ cm) (hs : slots ≤ sm) (hq : Q (some (.int (nar t z))) T.heap locs) : RunW p e s below Q cm sm T (mkF m pc Ls (.int z :: rest)) := by
  obtain ⟨fs, hr, hrun, hended, h1, h2, h3, h4⟩ := X.leaveW hS hn (v := some (.int (nar t z))) (fun h => by rw [hret] at h; cases h) hlk
  exact ⟨_, _, retN X hx hret ht hd hr, hrun, hended, _, _, rfl, hq, h1, h2, h3, h4.mono hc hs⟩
theorem retWW {vm₁ : Vm} (X : Stand p l e R (s.setVm vm₁) m args below meth c T locs cells slots) {n : Nat} (hS : s.Since vm₁ n) (hn : n ≤ T.heap.size) (hx : p.tables.exec = Jvm.exec) {pc : Nat} {Ls : Array Slot} {w : Value} {t : FieldType} {i : Instr} {rest : List Value} (hret : meth.sig.returnType = some t) (hn' : narrow t w = w)
    (hi : (i = .ireturn ∧ (t = .int ∨ t = .boolean ∨ t = .byte ∨ t = .char ∨ t = .short) ∧ ∃ z, w = .int z) ∨ (i = .lreturn ∧ t = .long ∧ ∃ z, w = .long z) ∨ (i = .dreturn ∧ t = .double ∧ ∃ z, w = .double z) ∨ (i = .freturn ∧ t = .float ∧ ∃ z, w = .float z) ∨ (i = .areturn ∧ t.isReference = true ∧ w.isRef = true))
    (hd : decode c.code pc = .ok (i, 1)) (hlk : meth.locks = false) (hc : cells ≤ cm) (hs : slots ≤ sm) (hq : Q (some w) T.heap locs) : RunW p e s below Q cm sm T (mkF m pc Ls (w :: rest)) := by
  obtain ⟨fs, hr, hrun, hended, h1, h2, h3, h4⟩ := X.leaveW hS hn (v := some w) (fun h => by rw [hret] at h; cases h) hlk
  exact ⟨_, _, retOut X hx hret hn' hi hd hr, hrun, hended, _, _, rfl, hq, h1, h2, h3, h4.mono hc hs⟩
end Own
section Heap
variable {Z : State} {h h' h0 : Heap} {a b : Addr} {ty : FieldType} {vs : List Value} {ws ws' : List Addr} {v : Value} {k : ClassId} {z j : Int32}
/-- an array and all that it holds -/
def Ary (Z : State) (h : Heap) (a : Addr) (ty : FieldType) (vs : List Value) : Prop := ∃ c : Cell, Arr Z h a c ty ∧ c.slots.toList = vs ∧ vs.length < 2147483648 ∧ ∀ v ∈ vs, fits ty v = true
theorem Ary.lt (A : Ary Z h a ty vs) : a < h.size := by obtain ⟨c, A, -⟩ := A; exact A.lt
theorem Ary.ext (A : Ary Z h a ty vs) (E : Ext h h') : Ary Z h' a ty vs := by obtain ⟨c, A, r⟩ := A; exact ⟨c, A.ext E, r⟩
theorem Ary.keep (A : Ary Z h a ty vs) (K : Keep h h' ws) (q : a ∉ ws) : Ary Z h' a ty vs := by obtain ⟨c, A, r⟩ := A; exact ⟨c, ⟨K.2.1 a c A.1 q, A.2⟩, r⟩
theorem Ary.set (A : Ary Z h a ty vs) {i : Nat} (W : Wr h h' a i v) (hv : fits ty v = true) : Ary Z h' a ty (vs.set i v) := by
  obtain ⟨c, A, e, l, f⟩ := A
  refine ⟨_, A.same W, by simp [Cell.setSlot, e], by simpa using l, fun w hw => ?_⟩
  rcases List.mem_or_eq_of_mem_set hw with q | rfl
  · exact f w q
  · exact hv
theorem Ary.ld (A : Ary Z h a ty vs) (hj : ¬ j < 0) (hv : vs[j.toNatClampNeg]? = some v) : ∃ c : Cell, Arr Z h a c ty ∧ ¬ (j < 0 ∨ c.slots.size ≤ j.toNatClampNeg) ∧ c.slots[j.toNatClampNeg]? = some v := by
  obtain ⟨c, A, e, l, f⟩ := A
  have q : c.slots[j.toNatClampNeg]? = some v := by rw [← Array.getElem?_toList, e]; exact hv
  exact ⟨c, A, fun r => r.elim hj fun y => absurd (Array.getElem?_eq_some_iff.mp q).1 (Nat.not_lt.mpr y), q⟩
theorem Ary.st (A : Ary Z h a ty vs) (hj : ¬ j < 0) (hl : j.toNatClampNeg < vs.length) : ∃ c : Cell, Arr Z h a c ty ∧ ¬ (j < 0 ∨ c.slots.size ≤ j.toNatClampNeg) := by
  obtain ⟨c, A, e, l, f⟩ := A
  refine ⟨c, A, fun r => r.elim hj fun y => ?_⟩
  rw [← e, Array.length_toList] at hl
  omega
theorem Ary.len (A : Ary Z h a ty vs) : ∃ c : Cell, Arr Z h a c ty ∧ c.slots.size.toInt32 = vs.length.toInt32 := by
  obtain ⟨c, A, e, l, f⟩ := A
  exact ⟨c, A, by rw [← e, Array.length_toList]⟩
theorem Ary.new (A : Arr Z h a (newA k ty z) ty) : Ary Z h a ty (List.replicate z.toNatClampNeg (defaultValue ty)) := by
  refine ⟨_, A, by simp [newA], ?_, fun v hv => ?_⟩
  · rw [List.length_replicate]
    have := Int32.toInt_lt z
    simp only [Int32.toNatClampNeg]
    omega
  · rw [List.eq_of_mem_replicate hv]
    cases ty <;> rfl
theorem Ary.fit (A : Ary Z h a ty vs) : ∃ c : Cell, Arr Z h a c ty ∧ FitC Z c ∧ c.slots.toList = vs ∧ c.slots.size = vs.length ∧ ∀ (h' : Heap) (b : Addr), Arr Z h' b (cloneOf c) ty → Ary Z h' b ty vs := by
  obtain ⟨c, A, e, l, f⟩ := A
  refine ⟨c, A, fitC_of A fun i hi v hv => ?_, e, by rw [← e, Array.length_toList], fun _ _ B => ⟨_, B, e, l, f⟩⟩
  refine f v ?_
  rw [← e]
  exact List.mem_of_getElem? (by rw [Array.getElem?_toList]; exact hv)
theorem ldI {p : Program} {l : Launch} {e : Env} {R : Room} {s : State} {m : MethodId} {args : Array Value} {below : List Frame} {meth : Method} {c : Code} {T : State} {locs : List Loc} {cells slots : Nat} (X : Stand p l e R s m args below meth c T locs cells slots) (hx : p.tables.exec = Jvm.exec) (hZ : Z.Warmed39 s.vm) (eT : T.heap = h) (A : Ary Z h a .int vs) (hj : ¬ j < 0) (hv : vs[j.toNatClampNeg]? = some v) {g : JFrame} (hg : g.method = m) {rest : List Value} (hs : g.stack = .int j :: .ref a :: rest) (hd : decode c.code g.pc = .ok (.iaload, 1)) (target : State)
    (hr : Steps p.tables e below (T.setTop { g with pc := g.pc + 1, stack := v :: rest }) target) : Steps p.tables e below (T.setTop g) target := by
  obtain ⟨cl, Ar, hin, hat⟩ := A.ld hj hv
  exact X.iaload hx (by rw [eT]; exact Ar.1) (State.isArrayOf_alike hZ.alike Ar.2.1) Ar.2.2 hin hat hg hs hd target hr
theorem ldJ {p : Program} {l : Launch} {e : Env} {R : Room} {s : State} {m : MethodId} {args : Array Value} {below : List Frame} {meth : Method} {c : Code} {T : State} {locs : List Loc} {cells slots : Nat} (X : Stand p l e R s m args below meth c T locs cells slots) (hx : p.tables.exec = Jvm.exec) (hZ : Z.Warmed39 s.vm) (eT : T.heap = h) (A : Ary Z h a .long vs) (hj : ¬ j < 0) (hv : vs[j.toNatClampNeg]? = some v) {g : JFrame} (hg : g.method = m) {rest : List Value} (hs : g.stack = .int j :: .ref a :: rest) (hd : decode c.code g.pc = .ok (.laload, 1)) (target : State)
    (hr : Steps p.tables e below (T.setTop { g with pc := g.pc + 1, stack := v :: rest }) target) : Steps p.tables e below (T.setTop g) target := by
  obtain ⟨cl, Ar, hin, hat⟩ := A.ld hj hv
  exact X.laload hx (by rw [eT]; exact Ar.1) (State.isArrayOf_alike hZ.alike Ar.2.1) Ar.2.2 hin hat hg hs hd target hr
theorem ldC {p : Program} {l : Launch} {e : Env} {R : Room} {s : State} {m : MethodId} {args : Array Value} {below : List Frame} {meth : Method} {c : Code} {T : State} {locs : List Loc} {cells slots : Nat} (X : Stand p l e R s m args below meth c T locs cells slots) (hx : p.tables.exec = Jvm.exec) (hZ : Z.Warmed39 s.vm) (eT : T.heap = h) (A : Ary Z h a .char vs) (hj : ¬ j < 0) (hv : vs[j.toNatClampNeg]? = some v) {g : JFrame} (hg : g.method = m) {rest : List Value} (hs : g.stack = .int j :: .ref a :: rest) (hd : decode c.code g.pc = .ok (.caload, 1)) (target : State)
    (hr : Steps p.tables e below (T.setTop { g with pc := g.pc + 1, stack := v :: rest }) target) : Steps p.tables e below (T.setTop g) target := by
  obtain ⟨cl, Ar, hin, hat⟩ := A.ld hj hv
  exact X.caload hx (by rw [eT]; exact Ar.1) (State.isArrayOf_alike hZ.alike Ar.2.1) Ar.2.2 hin hat hg hs hd target hr
theorem ldB {p : Program} {l : Launch} {e : Env} {R : Room} {s : State} {m : MethodId} {args : Array Value} {below : List Frame} {meth : Method} {c : Code} {T : State} {locs : List Loc} {cells slots : Nat} (X : Stand p l e R s m args below meth c T locs cells slots) (hx : p.tables.exec = Jvm.exec) (hZ : Z.Warmed39 s.vm) (eT : T.heap = h) (A : Ary Z h a .byte vs) (hj : ¬ j < 0) (hv : vs[j.toNatClampNeg]? = some v) {g : JFrame} (hg : g.method = m) {rest : List Value} (hs : g.stack = .int j :: .ref a :: rest) (hd : decode c.code g.pc = .ok (.baload, 1)) (target : State)
    (hr : Steps p.tables e below (T.setTop { g with pc := g.pc + 1, stack := v :: rest }) target) : Steps p.tables e below (T.setTop g) target := by
  obtain ⟨cl, Ar, hin, hat⟩ := A.ld hj hv
  exact X.baloadBytes hx (by rw [eT]; exact Ar.1) (State.isArrayOf_alike hZ.alike Ar.2.1) Ar.2.2 hin hat hg hs hd target hr
theorem ldZ {p : Program} {l : Launch} {e : Env} {R : Room} {s : State} {m : MethodId} {args : Array Value} {below : List Frame} {meth : Method} {c : Code} {T : State} {locs : List Loc} {cells slots : Nat} (X : Stand p l e R s m args below meth c T locs cells slots) (hx : p.tables.exec = Jvm.exec) (hZ : Z.Warmed39 s.vm) (eT : T.heap = h) (A : Ary Z h a .boolean vs) (hj : ¬ j < 0) (hv : vs[j.toNatClampNeg]? = some v) {g : JFrame} (hg : g.method = m) {rest : List Value} (hs : g.stack = .int j :: .ref a :: rest) (hd : decode c.code g.pc = .ok (.baload, 1)) (target : State)
    (hr : Steps p.tables e below (T.setTop { g with pc := g.pc + 1, stack := v :: rest }) target) : Steps p.tables e below (T.setTop g) target := by
  obtain ⟨cl, Ar, hin, hat⟩ := A.ld hj hv
  exact X.baloadBooleans hx (by rw [eT]; exact Ar.1) (State.isArrayOf_alike hZ.alike Ar.2.1) Ar.2.2 hin hat hg hs hd target hr
theorem ldD {p : Program} {l : Launch} {e : Env} {R : Room} {s : State} {m : MethodId} {args : Array Value} {below : List Frame} {meth : Method} {c : Code} {T : State} {locs : List Loc} {cells slots : Nat} (X : Stand p l e R s m args below meth c T locs cells slots) (hx : p.tables.exec = Jvm.exec) (hZ : Z.Warmed39 s.vm) (eT : T.heap = h) (A : Ary Z h a .double vs) (hj : ¬ j < 0) (hv : vs[j.toNatClampNeg]? = some v) {g : JFrame} (hg : g.method = m) {rest : List Value} (hs : g.stack = .int j :: .ref a :: rest) (hd : decode c.code g.pc = .ok (.daload, 1)) (target : State)
    (hr : Steps p.tables e below (T.setTop { g with pc := g.pc + 1, stack := v :: rest }) target) : Steps p.tables e below (T.setTop g) target := by
  obtain ⟨cl, Ar, hin, hat⟩ := A.ld hj hv
  exact X.daload hx (by rw [eT]; exact Ar.1) (State.isArrayOf_alike hZ.alike Ar.2.1) Ar.2.2 hin hat hg hs hd target hr
theorem ldR {p : Program} {l : Launch} {e : Env} {R : Room} {s : State} {m : MethodId} {args : Array Value} {below : List Frame} {meth : Method} {c : Code} {T : State} {locs : List Loc} {cells slots : Nat} (X : Stand p l e R s m args below meth c T locs cells slots) (hx : p.tables.exec = Jvm.exec) (hZ : Z.Warmed39 s.vm) (eT : T.heap = h) (A : Ary Z h a ty vs) (ht : ty.isReference = true) (hj : ¬ j < 0) (hv : vs[j.toNatClampNeg]? = some v) {g : JFrame} (hg : g.method = m) {rest : List Value} (hs : g.stack = .int j :: .ref a :: rest) (hd : decode c.code g.pc = .ok (.aaload, 1)) (target : State)
    (hr : Steps p.tables e below (T.setTop { g with pc := g.pc + 1, stack := v :: rest }) target) : Steps p.tables e below (T.setTop g) target := by
  obtain ⟨cl, Ar, hin, hat⟩ := A.ld hj hv
  exact X.aaload hx (by rw [eT]; exact Ar.1) (State.isArrayOf_alike hZ.alike Ar.2.1) ht Ar.2.2 hin hat hg hs hd target hr
theorem alen {p : Program} {l : Launch} {e : Env} {R : Room} {s : State} {m : MethodId} {args : Array Value} {below : List Frame} {meth : Method} {c : Code} {T : State} {locs : List Loc} {cells slots : Nat} (X : Stand p l e R s m args below meth c T locs cells slots) (hx : p.tables.exec = Jvm.exec) (hZ : Z.Warmed39 s.vm) (eT : T.heap = h) (A : Ary Z h a ty vs) (hn : vs.length.toInt32 = z) {g : JFrame} (hg : g.method = m) {rest : List Value} (hs : g.stack = .ref a :: rest) (hd : decode c.code g.pc = .ok (.arraylength, 1)) (target : State)
    (hr : Steps p.tables e below (T.setTop { g with pc := g.pc + 1, stack := .int z :: rest }) target) : Steps p.tables e below (T.setTop g) target := by
  obtain ⟨cl, Ar, ln⟩ := A.len
  exact X.arraylength hx (by rw [eT]; exact Ar.1) (State.isArrayOf_alike hZ.alike Ar.2.1) hg hs hd target (by rw [ln.trans hn]; exact hr)
theorem getI {xs : List Int32} {i : Nat} (q : i < xs.length) : (xs.map Value.int)[i]? = some (.int (xs.getD i 0)) := by
  simp [List.getElem?_map, List.getD_eq_getElem?_getD, List.getElem?_eq_getElem q]
theorem setI {xs : List Int32} {i : Nat} {x : Int32} : (xs.map Value.int).set i (.int x) = (xs.set i x).map Value.int := List.map_set.symm
/-- an array made over the class C -/
def OvA (Z : State) (h : Heap) (a : Addr) (C : String) : Prop := ∃ c : Cell, h[a]? = some c ∧ Ovr Z c.cls C
theorem OvA.keep {C : String} (O : OvA Z h a C) (K : Keep h h' ws) : OvA Z h' a C := by
  obtain ⟨c, e, o⟩ := O
  obtain ⟨c', q, r1, -, -⟩ := K.2.2 a c e
  exact ⟨c', q, r1 ▸ o⟩
theorem stA {C : String} {y : Addr} (O : OvA Z h a C) (A : Ary Z h a ty vs) (I : Ins Z h y C true) : Sto Z h a (.ref y) := by
  obtain ⟨c, A, -⟩ := A
  obtain ⟨c', e, o⟩ := O
  cases A.1.symm.trans e
  exact Sto.of A o I
theorem eqi_v {args : Array Value} {first s : State} {o : Option Outcome} {idx : List Nat} {t : Term} {k : Int32} (q : (Cond.eq t (.int k)).value args first o s idx = some true) : t.eval args first o idx s = some (.int k) := by
  simp only [Cond.value, Term.eval] at q
  cases ht : t.eval args first o idx s with
  | none => simp [ht] at q
  | some x => cases x <;> simp [ht] at q ⊢; exact q
theorem ary_start {args : Array Value} {s : State} {t : Term} {ty : FieldType} {a : Addr} {n : Int32} {vs : List Value} (hf : Fit s) (ev : t.eval args s none [] s = some (.ref a)) (ha : (Cond.arrayOf t ty).value args s none s [] = some true) (hl : (Cond.eq (.length t) (.int n)).value args s none s [] = some true) (hn : n = vs.length.toInt32) (hs : vs.length < 2147483648)
    (he : ∀ i, i < vs.length → (Term.elem t (.int i.toInt32)).eval args s none [] s = vs[i]?) : Ary s s.heap a ty vs := by
  obtain ⟨cl, A⟩ := Arr.start ev ha
  have hA := A.fin (Vm.Alike.refl _)
  have e1 := eqi_v hl
  have hsz : cl.slots.size < 2147483648 := by
    refine Nat.lt_of_not_le fun q => ?_
    have : ¬ cl.slots.size < 2 ^ 31 := by omega
    simp [Term.eval, ev, hA, this] at e1
  have e2 := len_f (idx := []) ev hA (by omega)
  rw [e1] at e2
  have e3 : n = cl.slots.size.toInt32 := by simpa using e2
  have e4 : cl.slots.size = vs.length := by
    have q := hn.symm.trans e3
    have q1 : vs.length.toInt32.toInt = vs.length := len_toInt (by omega)
    have q2 : cl.slots.size.toInt32.toInt = cl.slots.size := len_toInt (by omega)
    rw [q, q2] at q1
    omega
  have e5 : ∀ i, i < vs.length → cl.slots[i]? = vs[i]? := fun i hi => by
    have q := he i hi
    rw [List.getElem?_eq_getElem hi] at q
    have r := (elem_in q ev (Term.int_eval _) A.1).2
    have e : i.toInt32.toNatClampNeg = i := by simp only [Int32.toNatClampNeg, len_toInt (show i < 2 ^ 31 by omega)]; rfl
    rw [e] at r
    rw [r, List.getElem?_eq_getElem hi]
  refine ⟨cl, A, ?_, hs, fun v hv => ?_⟩
  · refine List.ext_getElem? fun i => ?_
    rw [Array.getElem?_toList]
    by_cases hi : i < vs.length
    · exact e5 i hi
    · rw [Array.getElem?_eq_none (by omega), List.getElem?_eq_none (by omega)]
  · obtain ⟨i, hi, rfl⟩ := List.getElem_of_mem hv
    have r := e5 i hi
    rw [List.getElem?_eq_getElem hi] at r
    have e : i.toInt32.toNatClampNeg = i := by simp only [Int32.toNatClampNeg, len_toInt (show i < 2 ^ 31 by omega)]; rfl
    exact elem_fits (j := i.toInt32) hf A (idx_in (by omega) (by omega)) (by rw [e]; exact r)
theorem nin1 {x y : Addr} (q : x ≠ y) : x ∉ [y] := ninS q nin0
theorem Arv.ary {dv : Value} (F : Arv Z h a k ty z vs dv) (hl : z.toNatClampNeg = vs.length) : Ary Z h a ty vs := by
  obtain ⟨c, A, -, S, hz, H, G⟩ := F
  have hs : c.slots.size = vs.length := S.trans hl
  have hb := (back32 hz).2
  refine ⟨c, A, List.ext_getElem? fun i => ?_, by omega, fun v hv => ?_⟩
  · rw [Array.getElem?_toList]
    by_cases hi : i < vs.length
    · rw [H i (by omega), List.getD_eq_getElem?_getD, List.getElem?_eq_getElem hi]
      rfl
    · rw [Array.getElem?_eq_none (by omega), List.getElem?_eq_none (by omega)]
  · obtain ⟨i, hi, rfl⟩ := List.getElem_of_mem hv
    have := G i (by omega)
    rw [List.getD_eq_getElem?_getD, List.getElem?_eq_getElem hi] at this
    exact this
end Heap
section Held
variable {p : Program} {l : Launch} {e : Env} {R : Room} {s : State} {m : MethodId} {args : Array Value} {below : List Frame} {meth : Method} {c : Code} {T : State} {locs : List Loc} {cells slots : Nat} {Q : Option Value → Heap → List Loc → Prop} {cm sm : Nat} {Z : State} {EL : List (String × Nat)} {h h0 : Heap} {aw : Array Value}
/-- a run that may intern, and keeps what is held of the constants EL -/
def RunH (Z : State) (EL : List (String × Nat)) (p : Program) (e : Env) (s : State) (below : List Frame) (Q : Option Value → Heap → List Loc → Prop) (cm sm : Nat) (T : State) (f : JFrame) : Prop :=
  ∃ s₂ o, Steps p.tables e below (T.setTop f) s₂ ∧ s₂.status = .running ∧ Ended s₂ below o ∧ ∃ v L, o = .returned v ∧ Q v s₂.heap L ∧ CHr Z EL s.vm s.heap s₂.vm s₂.heap ∧ ReturnedEndW s o s₂ L cm sm
theorem goH {T' : State} {f f' : JFrame} (st : ∀ target, Steps p.tables e below (T'.setTop f') target → Steps p.tables e below (T.setTop f) target) (k : RunH Z EL p e s below Q cm sm T' f') : RunH Z EL p e s below Q cm sm T f := by
  obtain ⟨s₂, o, h, r⟩ := k
  exact ⟨s₂, o, st _ h, r⟩
theorem retZH {vm₁ : Vm} (X : Stand p l e R (s.setVm vm₁) m args below meth c T locs cells slots) {n : Nat} (hS : s.Since vm₁ n) (hn : n ≤ T.heap.size) (hh : s.heap = h0) (eT : T.heap = h) (C : CHr Z EL s.vm h0 vm₁ h) (hEL : EW Z aw EL) (hZ : Z.Warmed39 vm₁) (hx : p.tables.exec = Jvm.exec) {pc : Nat} {Ls : Array Slot} {z : Int32} {t : FieldType} {rest : List Value} (hret : meth.sig.returnType = some t) (ht : t = .boolean ∨ t = .byte ∨ t = .char ∨ t = .short)
    (hd : decode c.code pc = .ok (.ireturn, 1)) (hlk : meth.locks = false) (hc : cells ≤ cm) (hs : slots ≤ sm) (hq : Q (some (.int (nar t z))) T.heap locs) : RunH Z EL p e s below Q cm sm T (mkF m pc Ls (.int z :: rest)) := by
  obtain ⟨fs, hr, hrun, hended, h1, h2, h3, h4⟩ := X.leaveW hS hn (v := some (.int (nar t z))) (fun h => by rw [hret] at h; cases h) hlk
  have C' := C.trans (CHv.at X hZ hEL C.1)
  subst hh eT
  exact ⟨_, _, retN X hx hret ht hd hr, hrun, hended, _, _, rfl, hq, C', h1, h2, h3, h4.mono hc hs⟩
theorem retWH {vm₁ : Vm} (X : Stand p l e R (s.setVm vm₁) m args below meth c T locs cells slots) {n : Nat} (hS : s.Since vm₁ n) (hn : n ≤ T.heap.size) (hh : s.heap = h0) (eT : T.heap = h) (C : CHr Z EL s.vm h0 vm₁ h) (hEL : EW Z aw EL) (hZ : Z.Warmed39 vm₁) (hx : p.tables.exec = Jvm.exec) {pc : Nat} {Ls : Array Slot} {w : Value} {t : FieldType} {i : Instr} {rest : List Value} (hret : meth.sig.returnType = some t) (hn' : narrow t w = w)
    (hi : (i = .ireturn ∧ (t = .int ∨ t = .boolean ∨ t = .byte ∨ t = .char ∨ t = .short) ∧ ∃ z, w = .int z) ∨ (i = .lreturn ∧ t = .long ∧ ∃ z, w = .long z) ∨ (i = .dreturn ∧ t = .double ∧ ∃ z, w = .double z) ∨ (i = .freturn ∧ t = .float ∧ ∃ z, w = .float z) ∨ (i = .areturn ∧ t.isReference = true ∧ w.isRef = true))
    (hd : decode c.code pc = .ok (i, 1)) (hlk : meth.locks = false) (hc : cells ≤ cm) (hs : slots ≤ sm) (hq : Q (some w) T.heap locs) : RunH Z EL p e s below Q cm sm T (mkF m pc Ls (w :: rest)) := by
  obtain ⟨fs, hr, hrun, hended, h1, h2, h3, h4⟩ := X.leaveW hS hn (v := some w) (fun h => by rw [hret] at h; cases h) hlk
  have C' := C.trans (CHv.at X hZ hEL C.1)
  subst hh eT
  exact ⟨_, _, retOut X hx hret hn' hi hd hr, hrun, hended, _, _, rfl, hq, C', h1, h2, h3, h4.mono hc hs⟩
theorem selP {s : State} {args : Array Value} {y : MethodName} {n : Nat} (wi : (Cond.instantiable y.cls n).before args s = true) (hpriv : s.PrivateAt y) (hinst : (Cond.instanceMethod y).before args s = true) (hy : y.cls ≠ "java/lang/invoke/MethodHandle" ∧ y.cls ≠ "java/lang/invoke/VarHandle") : (Cond.selects y.cls y y).before args s = true := by
  have w := wi
  obtain ⟨c, k, h1, h2, -⟩ := Cond.instantiable_spec wi
  refine selects_self_of_private h1 h2 ?_ hpriv hinst hy
  simp [Cond.before, Cond.holds, Cond.value, h1, h2] at w
  exact w.1.1.2.1
end Held
end Jvm.Own
namespace Jvm.Pilot.@@N@@
open Jvm Jvm.ClassFile Sem Op Lib Jvm.Free Jvm.Stand Jvm.LawKit Jvm.RoadKit Jvm.Own Bundle Jvm.Pilot.@@N@@.Jvm.D
abbrev mInit : MethodName := (⟨"com/example/wayshard/wayshard/service/VertexQueue", "<init>", "(I)V"⟩ : MethodName)
abbrev mclear : MethodName := (⟨"com/example/wayshard/wayshard/service/VertexQueue", "clear", "()V"⟩ : MethodName)
abbrev misEmpty : MethodName := (⟨"com/example/wayshard/wayshard/service/VertexQueue", "isEmpty", "()Z"⟩ : MethodName)
abbrev misTaken : MethodName := (⟨"com/example/wayshard/wayshard/service/VertexQueue", "isTaken", "(I)Z"⟩ : MethodName)
abbrev moffer : MethodName := (⟨"com/example/wayshard/wayshard/service/VertexQueue", "offer", "(ID)V"⟩ : MethodName)
abbrev msiftUp : MethodName := (⟨"com/example/wayshard/wayshard/service/VertexQueue", "siftUp", "(I)V"⟩ : MethodName)
abbrev mmove : MethodName := (⟨"com/example/wayshard/wayshard/service/VertexQueue", "move", "(II)V"⟩ : MethodName)
abbrev mpoll : MethodName := (⟨"com/example/wayshard/wayshard/service/VertexQueue", "poll", "()I"⟩ : MethodName)
abbrev msiftDown : MethodName := (⟨"com/example/wayshard/wayshard/service/VertexQueue", "siftDown", "(I)V"⟩ : MethodName)
abbrev rO0 : Room := ({ frames := 0, cells := 0, slots := 0, locals := 0 } : Room)
abbrev rO1 : Room := ({ frames := 1, cells := 0, slots := 0, locals := 14 } : Room)
abbrev rO2 : Room := ({ frames := 1, cells := 3, slots := 6, locals := 15 } : Room)
abbrev rO3 : Room := ({ frames := 2, cells := 0, slots := 0, locals := 30 } : Room)
theorem tw {Z : State} {aw : Array Value} (hw : ∀ d ∈ tables_1, d.before aw Z = true) (i : Nat) {d : Jvm.Cond} (h : tables_1[i]? = some d) : d.before aw Z = true := hw _ (List.mem_of_getElem? h)
def own_st (Z : State) (n0 : Nat) (h : Heap) (a0 bh bd bp : Addr) (u0 u1 p0 p1 sz tk : Int32) (x0 x1 : UInt64) : Prop :=
  Exa Z h a0 "com/example/wayshard/wayshard/service/VertexQueue" ∧ Fld Z h a0 "com/example/wayshard/wayshard/service/VertexQueue" "heap" "[I" (.ref bh) ∧ Fld Z h a0 "com/example/wayshard/wayshard/service/VertexQueue" "priorities" "[D" (.ref bd) ∧ Fld Z h a0 "com/example/wayshard/wayshard/service/VertexQueue" "places" "[I" (.ref bp) ∧ Fld Z h a0 "com/example/wayshard/wayshard/service/VertexQueue" "size" "I" (.int sz) ∧ Fld Z h a0 "com/example/wayshard/wayshard/service/VertexQueue" "taken" "I" (.int tk) ∧ Ary Z h bh .int [(.int u0), (.int u1)] ∧ Ary Z h bd .double [(.double x0), (.double x1)] ∧ Ary Z h bp .int [(.int p0), (.int p1)] ∧ n0 ≤ a0 ∧ n0 ≤ bh ∧ n0 ≤ bd ∧ n0 ≤ bp ∧ a0 ≠ bh ∧ a0 ≠ bd ∧ a0 ≠ bp ∧ bh ≠ bd ∧ bh ≠ bp ∧ bd ≠ bp
def own_min (p0 : Int32) (p1 : Int32) : Int32 := (if p1 < p0 then p1 else p0)
theorem d4_0 : decode jdk_29_method_69_code 0 = .ok (.iload_n 0, 1) := by decide +kernel
theorem d4_1 : decode jdk_29_method_69_code 1 = .ok (.iload_n 1, 1) := by decide +kernel
theorem d4_2 : decode jdk_29_method_69_code 2 = .ok (.if_icmp .gt 7, 3) := by decide +kernel
theorem d4_9 : decode jdk_29_method_69_code 9 = .ok (.iload_n 1, 1) := by decide +kernel
theorem d4_5 : decode jdk_29_method_69_code 5 = .ok (.iload_n 0, 1) := by decide +kernel
theorem d4_6 : decode jdk_29_method_69_code 6 = .ok (.goto 4, 3) := by decide +kernel
theorem d4_10 : decode jdk_29_method_69_code 10 = .ok (.ireturn, 1) := by decide +kernel
theorem ef_4 (m : MethodId) (x0 : Int32) (x1 : Int32) : entryFrame m #[(.int x0), (.int x1)] 2 = mkF m 0 #[.val (.int x0), .val (.int x1)] [] := by first | (simp [entryFrame, mkF, argsToLocals, Value.category]; done) | rfl
def Q4 (Z : State) (p0 : Int32) (p1 : Int32) (h0 : Heap) (n0 : Nat) (v : Option Value) (h : Heap) (L : List Loc) : Prop := v = some (.int (own_min p0 p1)) ∧ Fr n0 L ∧ h = h0
set_option maxRecDepth 65536 in
set_option maxHeartbeats 40000000 in
theorem rm4 (l : Launch) (Z : State) (aw : Array Value) (hw : ∀ d ∈ tables_1, d.before aw Z = true) (ws : List Jvm.Cond) (p0 : Int32) (p1 : Int32) (h0 : Heap) (n0 : Nat) (Z0 : n0 ≤ h0.size) :
    MetFree l (⟨"java/lang/Math", "min", "(II)I"⟩ : MethodName) (head1 (Jvm.Cond.code (⟨"java/lang/Math", "min", "(II)I"⟩ : MethodName) jdk_29_method_69_code 2 (some .int) :: ws) rO0) (fun a U => a = #[(.int p0), (.int p1)] ∧ Z.Warmed39 U.vm ∧ U.heap = h0) (fun _ _ _ _ _ => True) (fun _ U o U' => ∃ v L, o = .returned v ∧ Q4 Z p0 p1 h0 n0 v U'.heap L ∧ FrameEnd U o U' L rO0.cells rO0.slots) := by
  refine MetFree.of_bodySF (Jvm.Free.JP.mathPlain rfl (by decide +kernel)) hisR ?_
  intro p e s m args below meth c s₁ Bd hml0 hP hK
  obtain ⟨rfl, hZ, hh⟩ := hP
  have hx := Bd.exec
  have hby := Bd.bytes
  have hml : c.maxLocals = 2 := hml0
  have hown : s.vm.findClass "java/lang/Math" = some m.cls := findClass_of_methodNamed Bd.named
  have hnm := (name_of_methodNamed Bd.named Bd.method).1
  have hlk : meth.locks = false := BodyLoose.notSynchronized Bd
  have X0 : Stand p l e rO0 s m #[(.int p0), (.int p1)] below meth c s₁ [] 0 0 := Stand.of_body Bd
  have e0 : s₁.heap = h0 := by rw [← hh, Bd.state]; rfl
  have N0 := Fr.nil n0
  show Run p e s below (Q4 Z p0 p1 h0 n0) rO0.cells rO0.slots s₁ (entryFrame m #[(.int p0), (.int p1)] 2)
  rw [ef_4]
  show Run _ _ _ _ _ _ _ s₁ (mkF m 0 #[.val (.int p0), .val (.int p1)] [])
  refine go (T' := s₁) (f' := (mkF m 1 #[.val (.int p0), .val (.int p1)] [(.int p0)])) (by intro t k; exact XS.iloadN X0.here hx rfl (hb hby d4_0) rfl k) ?_
  refine go (T' := s₁) (f' := (mkF m 2 #[.val (.int p0), .val (.int p1)] [(.int p1), (.int p0)])) (by intro t k; exact XS.iloadN X0.here hx rfl (hb hby d4_1) rfl k) ?_
  obtain ⟨z1, hz1⟩ : ∃ z : Int32, z = (if p1 < p0 then p1 else p0) := ⟨_, rfl⟩
  have J2 : Run p e s below (Q4 Z p0 p1 h0 n0) rO0.cells rO0.slots s₁ (mkF m 10 #[.val (.int p0), .val (.int p1)] [(.int z1)]) := by
    show Run _ _ _ _ _ _ _ s₁ (mkF m 10 #[.val (.int p0), .val (.int p1)] [(.int z1)])
    refine retW X0 hx (t := .int) Bd.returns rfl (Or.inl ⟨rfl, Or.inl rfl, _, rfl⟩) (hb hby d4_10) hlk (by decide) (by decide) ?_
    show Q4 Z p0 p1 h0 n0 _ s₁.heap _
    rw [e0]
    have hv' : z1 = (own_min p0 p1) := by
      subst_vars
      unfold own_min
      first | rfl | ((repeat' split) <;> first | rfl | contradiction) | simp [nar, *]
    have hv : (some (.int z1) : Option Value) = some (.int (own_min p0 p1)) := congrArg (fun z => (some (.int z) : Option Value)) hv'
    exact ⟨hv, N0, rfl⟩
  show Run _ _ _ _ _ _ _ s₁ (mkF m 2 #[.val (.int p0), .val (.int p1)] [(.int p1), (.int p0)])
  by_cases hc2 : p1 < p0
  · refine go (T' := s₁) (f' := (mkF m 9 #[.val (.int p0), .val (.int p1)] [])) (by intro t k; exact XS.icmpYes X0.here hx rfl (pc0 := 2) (pc' := 9) rfl (hb hby d4_2) rfl (tlt hc2).2.2.1 (by decide) (by decide) k) ?_
    refine go (T' := s₁) (f' := (mkF m 10 #[.val (.int p0), .val (.int p1)] [(.int p1)])) (by intro t k; exact XS.iloadN X0.here hx rfl (hb hby d4_9) rfl k) ?_
    have ez1 : z1 = p1 := (hz1).trans (if_pos hc2)
    subst ez1
    exact J2
  · refine go (T' := s₁) (f' := (mkF m 5 #[.val (.int p0), .val (.int p1)] [])) (by intro t k; exact XS.icmpNo X0.here hx rfl (hb hby d4_2) rfl (flt hc2).2.2.1 k) ?_
    refine go (T' := s₁) (f' := (mkF m 6 #[.val (.int p0), .val (.int p1)] [(.int p0)])) (by intro t k; exact XS.iloadN X0.here hx rfl (hb hby d4_5) rfl k) ?_
    refine go (T' := s₁) (f' := (mkF m 10 #[.val (.int p0), .val (.int p1)] [(.int p0)])) (by intro t k; exact XS.goto X0.here hx rfl (pc0 := 6) (pc' := 10) rfl (hb hby d4_6) (by decide) (by decide) k) ?_
    have ez1 : z1 = p0 := (hz1).trans (if_neg hc2)
    subst ez1
    exact J2
theorem d3_0 : decode jdk_65_method_103_code 0 = .ok (.iconst 0, 1) := by decide +kernel
theorem d3_1 : decode jdk_65_method_103_code 1 = .ok (.istore_n 2, 1) := by decide +kernel
theorem d3_2 : decode jdk_65_method_103_code 2 = .ok (.aload_n 0, 1) := by decide +kernel
theorem d3_3 : decode jdk_65_method_103_code 3 = .ok (.arraylength, 1) := by decide +kernel
theorem d3_4 : decode jdk_65_method_103_code 4 = .ok (.istore_n 3, 1) := by decide +kernel
theorem d3_5 : decode jdk_65_method_103_code 5 = .ok (.iload_n 2, 1) := by decide +kernel
theorem d3_6 : decode jdk_65_method_103_code 6 = .ok (.iload_n 3, 1) := by decide +kernel
theorem d3_7 : decode jdk_65_method_103_code 7 = .ok (.if_icmp .ge 13, 3) := by decide +kernel
theorem d3_10 : decode jdk_65_method_103_code 10 = .ok (.aload_n 0, 1) := by decide +kernel
theorem d3_11 : decode jdk_65_method_103_code 11 = .ok (.iload_n 2, 1) := by decide +kernel
theorem d3_12 : decode jdk_65_method_103_code 12 = .ok (.iload_n 1, 1) := by decide +kernel
theorem d3_13 : decode jdk_65_method_103_code 13 = .ok (.iastore, 1) := by decide +kernel
theorem d3_14 : decode jdk_65_method_103_code 14 = .ok (.iinc 2 1, 3) := by decide +kernel
theorem d3_17 : decode jdk_65_method_103_code 17 = .ok (.goto (-12), 3) := by decide +kernel
theorem d3_20 : decode jdk_65_method_103_code 20 = .ok (.return_, 1) := by decide +kernel
theorem pn_3 : plainName "java/util/Arrays" = true := by first | (simp [plainName, overriddenIn]; done) | decide +kernel
theorem ef_3 (m : MethodId) (x0 : Addr) : entryFrame m #[(.ref x0), (.int (-1 : Int32))] 4 = mkF m 0 #[.val (.ref x0), .val (.int (-1 : Int32)), .unset, .unset] [] := by first | (simp [entryFrame, mkF, argsToLocals, Value.category]; done) | rfl
def Q3 (Z : State) (a0 : Addr) (h0 : Heap) (n0 : Nat) (v : Option Value) (h : Heap) (L : List Loc) : Prop := v = none ∧ Fr n0 L ∧ Keep h0 h [a0] ∧ Ary Z h a0 .int [(.int (-1 : Int32)), (.int (-1 : Int32))]
set_option maxRecDepth 65536 in
set_option maxHeartbeats 40000000 in
theorem rm3 (l : Launch) (Z : State) (aw : Array Value) (hw : ∀ d ∈ tables_1, d.before aw Z = true) (ws : List Jvm.Cond) (a0 : Addr) (h0 : Heap) (n0 : Nat) (Z0 : n0 ≤ h0.size) (A_a0 : Ary Z h0 a0 .int [(.int (0 : Int32)), (.int (0 : Int32))]) (g_a0 : n0 ≤ a0) :
    MetFree l (⟨"java/util/Arrays", "fill", "([II)V"⟩ : MethodName) (head1 (Jvm.Cond.code (⟨"java/util/Arrays", "fill", "([II)V"⟩ : MethodName) jdk_65_method_103_code 4 none :: ws) rO0) (fun a U => a = #[(.ref a0), (.int (-1 : Int32))] ∧ Z.Warmed39 U.vm ∧ U.heap = h0) (fun _ _ _ _ _ => True) (fun _ U o U' => ∃ v L, o = .returned v ∧ Q3 Z a0 h0 n0 v U'.heap L ∧ FrameEnd U o U' L rO0.cells rO0.slots) := by
  refine MetFree.of_bodySF (plainFor_of_name pn_3) hisR ?_
  intro p e s m args below meth c s₁ Bd hml0 hP hK
  obtain ⟨rfl, hZ, hh⟩ := hP
  have hx := Bd.exec
  have hby := Bd.bytes
  have hml : c.maxLocals = 4 := hml0
  have hown : s.vm.findClass "java/util/Arrays" = some m.cls := findClass_of_methodNamed Bd.named
  have hnm := (name_of_methodNamed Bd.named Bd.method).1
  have hlk : meth.locks = false := BodyLoose.notSynchronized Bd
  have X0 : Stand p l e rO0 s m #[(.ref a0), (.int (-1 : Int32))] below meth c s₁ [] 0 0 := Stand.of_body Bd
  have e0 : s₁.heap = h0 := by rw [← hh, Bd.state]; rfl
  have N0 := Fr.nil n0
  show Run p e s below (Q3 Z a0 h0 n0) rO0.cells rO0.slots s₁ (entryFrame m #[(.ref a0), (.int (-1 : Int32))] 4)
  rw [ef_3]
  show Run _ _ _ _ _ _ _ s₁ (mkF m 0 #[.val (.ref a0), .val (.int (-1 : Int32)), .unset, .unset] [])
  refine go (T' := s₁) (f' := (mkF m 1 #[.val (.ref a0), .val (.int (-1 : Int32)), .unset, .unset] [(.int (0 : Int32))])) (by intro t k; exact XS.iconst X0.here hx rfl (hb hby d3_0) k) ?_
  refine go (T' := s₁) (f' := (mkF m 2 #[.val (.ref a0), .val (.int (-1 : Int32)), .val (.int (0 : Int32)), .unset] [])) (by intro t k; exact XS.istoreN X0.here hx rfl (hb hby d3_1) rfl (l' := #[.val (.ref a0), .val (.int (-1 : Int32)), .val (.int (0 : Int32)), .unset]) rfl k) ?_
  refine go (T' := s₁) (f' := (mkF m 3 #[.val (.ref a0), .val (.int (-1 : Int32)), .val (.int (0 : Int32)), .unset] [(.ref a0)])) (by intro t k; exact XS.aloadN X0.here hx rfl (hb hby d3_2) rfl rfl k) ?_
  refine go (T' := s₁) (f' := (mkF m 4 #[.val (.ref a0), .val (.int (-1 : Int32)), .val (.int (0 : Int32)), .unset] [(.int (2 : Int32))])) (by intro t k; exact alen X0 hx hZ e0 A_a0 (z := (2 : Int32)) rfl (g := (mkF m 3 #[.val (.ref a0), .val (.int (-1 : Int32)), .val (.int (0 : Int32)), .unset] [(.ref a0)])) rfl rfl (hb hby d3_3) _ k) ?_
  refine go (T' := s₁) (f' := (mkF m 5 #[.val (.ref a0), .val (.int (-1 : Int32)), .val (.int (0 : Int32)), .val (.int (2 : Int32))] [])) (by intro t k; exact XS.istoreN X0.here hx rfl (hb hby d3_4) rfl (l' := #[.val (.ref a0), .val (.int (-1 : Int32)), .val (.int (0 : Int32)), .val (.int (2 : Int32))]) rfl k) ?_
  refine go (T' := s₁) (f' := (mkF m 6 #[.val (.ref a0), .val (.int (-1 : Int32)), .val (.int (0 : Int32)), .val (.int (2 : Int32))] [(.int (0 : Int32))])) (by intro t k; exact XS.iloadN X0.here hx rfl (hb hby d3_5) rfl k) ?_
  refine go (T' := s₁) (f' := (mkF m 7 #[.val (.ref a0), .val (.int (-1 : Int32)), .val (.int (0 : Int32)), .val (.int (2 : Int32))] [(.int (2 : Int32)), (.int (0 : Int32))])) (by intro t k; exact XS.iloadN X0.here hx rfl (hb hby d3_6) rfl k) ?_
  refine go (T' := s₁) (f' := (mkF m 10 #[.val (.ref a0), .val (.int (-1 : Int32)), .val (.int (0 : Int32)), .val (.int (2 : Int32))] [])) (by intro t k; exact XS.icmpNo X0.here hx rfl (hb hby d3_7) rfl (tlt (by decide : (0 : Int32) < (2 : Int32))).2.1 k) ?_
  refine go (T' := s₁) (f' := (mkF m 11 #[.val (.ref a0), .val (.int (-1 : Int32)), .val (.int (0 : Int32)), .val (.int (2 : Int32))] [(.ref a0)])) (by intro t k; exact XS.aloadN X0.here hx rfl (hb hby d3_10) rfl rfl k) ?_
  refine go (T' := s₁) (f' := (mkF m 12 #[.val (.ref a0), .val (.int (-1 : Int32)), .val (.int (0 : Int32)), .val (.int (2 : Int32))] [(.int (0 : Int32)), (.ref a0)])) (by intro t k; exact XS.iloadN X0.here hx rfl (hb hby d3_11) rfl k) ?_
  refine go (T' := s₁) (f' := (mkF m 13 #[.val (.ref a0), .val (.int (-1 : Int32)), .val (.int (0 : Int32)), .val (.int (2 : Int32))] [(.int (-1 : Int32)), (.int (0 : Int32)), (.ref a0)])) (by intro t k; exact XS.iloadN X0.here hx rfl (hb hby d3_12) rfl k) ?_
  obtain ⟨cl1, Ar1, hin1⟩ := Ary.st (j := (0 : Int32)) A_a0 (by decide) (by show (0 : Int32).toNatClampNeg < 2; decide)
  obtain ⟨T1, h1, X1, e1, W1, st1⟩ := stI X0 hx hZ e0 Ar1 (j := (0 : Int32)) hin1 (g := (mkF m 13 #[.val (.ref a0), .val (.int (-1 : Int32)), .val (.int (0 : Int32)), .val (.int (2 : Int32))] [(.int (-1 : Int32)), (.int (0 : Int32)), (.ref a0)])) rfl rfl (hb hby d3_13)
  have K1 : Keep h0 h1 [a0] := Keep.of_wr W1
  have V1 : Ary Z h1 a0 .int [(.int (-1 : Int32)), (.int (0 : Int32))] := Ary.set A_a0 W1 rfl
  have N1 := Fr.snoc X1 N0 g_a0
  have Z1 : n0 ≤ h1.size := Nat.le_trans Z0 K1.1
  have KK1 : Keep h0 h1 [a0] := (Keep.refl _ _).trans K1 (allS (Or.inl (List.mem_of_getElem? (i := 0) rfl)) all0)
  refine go st1 ?_
  show Run _ _ _ _ _ _ _ T1 (mkF m 14 #[.val (.ref a0), .val (.int (-1 : Int32)), .val (.int (0 : Int32)), .val (.int (2 : Int32))] [])
  refine go (T' := T1) (f' := (mkF m 17 #[.val (.ref a0), .val (.int (-1 : Int32)), .val (.int (1 : Int32)), .val (.int (2 : Int32))] [])) (by intro t k; exact XS.iinc X1.here hx rfl (hb hby d3_14) rfl (l' := #[.val (.ref a0), .val (.int (-1 : Int32)), .val (.int (1 : Int32)), .val (.int (2 : Int32))]) rfl k) ?_
  refine go (T' := T1) (f' := (mkF m 5 #[.val (.ref a0), .val (.int (-1 : Int32)), .val (.int (1 : Int32)), .val (.int (2 : Int32))] [])) (by intro t k; exact XS.goto X1.here hx rfl (pc0 := 17) (pc' := 5) rfl (hb hby d3_17) (by decide) (by decide) k) ?_
  refine go (T' := T1) (f' := (mkF m 6 #[.val (.ref a0), .val (.int (-1 : Int32)), .val (.int (1 : Int32)), .val (.int (2 : Int32))] [(.int (1 : Int32))])) (by intro t k; exact XS.iloadN X1.here hx rfl (hb hby d3_5) rfl k) ?_
  refine go (T' := T1) (f' := (mkF m 7 #[.val (.ref a0), .val (.int (-1 : Int32)), .val (.int (1 : Int32)), .val (.int (2 : Int32))] [(.int (2 : Int32)), (.int (1 : Int32))])) (by intro t k; exact XS.iloadN X1.here hx rfl (hb hby d3_6) rfl k) ?_
  refine go (T' := T1) (f' := (mkF m 10 #[.val (.ref a0), .val (.int (-1 : Int32)), .val (.int (1 : Int32)), .val (.int (2 : Int32))] [])) (by intro t k; exact XS.icmpNo X1.here hx rfl (hb hby d3_7) rfl (tlt (by decide : (1 : Int32) < (2 : Int32))).2.1 k) ?_
  refine go (T' := T1) (f' := (mkF m 11 #[.val (.ref a0), .val (.int (-1 : Int32)), .val (.int (1 : Int32)), .val (.int (2 : Int32))] [(.ref a0)])) (by intro t k; exact XS.aloadN X1.here hx rfl (hb hby d3_10) rfl rfl k) ?_
  refine go (T' := T1) (f' := (mkF m 12 #[.val (.ref a0), .val (.int (-1 : Int32)), .val (.int (1 : Int32)), .val (.int (2 : Int32))] [(.int (1 : Int32)), (.ref a0)])) (by intro t k; exact XS.iloadN X1.here hx rfl (hb hby d3_11) rfl k) ?_
  refine go (T' := T1) (f' := (mkF m 13 #[.val (.ref a0), .val (.int (-1 : Int32)), .val (.int (1 : Int32)), .val (.int (2 : Int32))] [(.int (-1 : Int32)), (.int (1 : Int32)), (.ref a0)])) (by intro t k; exact XS.iloadN X1.here hx rfl (hb hby d3_12) rfl k) ?_
  obtain ⟨cl2, Ar2, hin2⟩ := Ary.st (j := (1 : Int32)) V1 (by decide) (by show (1 : Int32).toNatClampNeg < 2; decide)
  obtain ⟨T2, h2, X2, e2, W2, st2⟩ := stI X1 hx hZ e1 Ar2 (j := (1 : Int32)) hin2 (g := (mkF m 13 #[.val (.ref a0), .val (.int (-1 : Int32)), .val (.int (1 : Int32)), .val (.int (2 : Int32))] [(.int (-1 : Int32)), (.int (1 : Int32)), (.ref a0)])) rfl rfl (hb hby d3_13)
  have K2 : Keep h1 h2 [a0] := Keep.of_wr W2
  have V2 : Ary Z h2 a0 .int [(.int (-1 : Int32)), (.int (-1 : Int32))] := Ary.set V1 W2 rfl
  have N2 := Fr.snoc X2 N1 g_a0
  have Z2 : n0 ≤ h2.size := Nat.le_trans Z1 K2.1
  have KK2 : Keep h0 h2 [a0] := KK1.trans K2 (allS (Or.inl (List.mem_of_getElem? (i := 0) rfl)) all0)
  refine go st2 ?_
  show Run _ _ _ _ _ _ _ T2 (mkF m 14 #[.val (.ref a0), .val (.int (-1 : Int32)), .val (.int (1 : Int32)), .val (.int (2 : Int32))] [])
  refine go (T' := T2) (f' := (mkF m 17 #[.val (.ref a0), .val (.int (-1 : Int32)), .val (.int (2 : Int32)), .val (.int (2 : Int32))] [])) (by intro t k; exact XS.iinc X2.here hx rfl (hb hby d3_14) rfl (l' := #[.val (.ref a0), .val (.int (-1 : Int32)), .val (.int (2 : Int32)), .val (.int (2 : Int32))]) rfl k) ?_
  refine go (T' := T2) (f' := (mkF m 5 #[.val (.ref a0), .val (.int (-1 : Int32)), .val (.int (2 : Int32)), .val (.int (2 : Int32))] [])) (by intro t k; exact XS.goto X2.here hx rfl (pc0 := 17) (pc' := 5) rfl (hb hby d3_17) (by decide) (by decide) k) ?_
  refine go (T' := T2) (f' := (mkF m 6 #[.val (.ref a0), .val (.int (-1 : Int32)), .val (.int (2 : Int32)), .val (.int (2 : Int32))] [(.int (2 : Int32))])) (by intro t k; exact XS.iloadN X2.here hx rfl (hb hby d3_5) rfl k) ?_
  refine go (T' := T2) (f' := (mkF m 7 #[.val (.ref a0), .val (.int (-1 : Int32)), .val (.int (2 : Int32)), .val (.int (2 : Int32))] [(.int (2 : Int32)), (.int (2 : Int32))])) (by intro t k; exact XS.iloadN X2.here hx rfl (hb hby d3_6) rfl k) ?_
  refine go (T' := T2) (f' := (mkF m 20 #[.val (.ref a0), .val (.int (-1 : Int32)), .val (.int (2 : Int32)), .val (.int (2 : Int32))] [])) (by intro t k; exact XS.icmpYes X2.here hx rfl (pc0 := 7) (pc' := 20) rfl (hb hby d3_7) rfl (flt (by decide : ¬ ((2 : Int32) < (2 : Int32)))).2.1 (by decide) (by decide) k) ?_
  refine retV X2 hx Bd.returns (hb hby d3_20) hlk (by decide) (by decide) ?_
  show Q3 Z a0 h0 n0 _ T2.heap _
  rw [e2]
  exact ⟨rfl, N2, KK2, V2⟩
theorem d1_0 : decode prog_64_method_1_code 0 = .ok (.aload_n 0, 1) := by decide +kernel
theorem d1_1 : decode prog_64_method_1_code 1 = .ok (.invokespecial 1, 3) := by decide +kernel
theorem d1_4 : decode prog_64_method_1_code 4 = .ok (.aload_n 0, 1) := by decide +kernel
theorem d1_5 : decode prog_64_method_1_code 5 = .ok (.iload_n 1, 1) := by decide +kernel
theorem d1_6 : decode prog_64_method_1_code 6 = .ok (.newarray .int, 2) := by decide +kernel
theorem d1_8 : decode prog_64_method_1_code 8 = .ok (.putfield 7, 3) := by decide +kernel
theorem d1_11 : decode prog_64_method_1_code 11 = .ok (.aload_n 0, 1) := by decide +kernel
theorem d1_12 : decode prog_64_method_1_code 12 = .ok (.iload_n 1, 1) := by decide +kernel
theorem d1_13 : decode prog_64_method_1_code 13 = .ok (.newarray .double, 2) := by decide +kernel
theorem d1_15 : decode prog_64_method_1_code 15 = .ok (.putfield 13, 3) := by decide +kernel
theorem d1_18 : decode prog_64_method_1_code 18 = .ok (.aload_n 0, 1) := by decide +kernel
theorem d1_19 : decode prog_64_method_1_code 19 = .ok (.iload_n 1, 1) := by decide +kernel
theorem d1_20 : decode prog_64_method_1_code 20 = .ok (.newarray .int, 2) := by decide +kernel
theorem d1_22 : decode prog_64_method_1_code 22 = .ok (.putfield 17, 3) := by decide +kernel
theorem d1_25 : decode prog_64_method_1_code 25 = .ok (.aload_n 0, 1) := by decide +kernel
theorem d1_26 : decode prog_64_method_1_code 26 = .ok (.getfield 17, 3) := by decide +kernel
theorem d1_29 : decode prog_64_method_1_code 29 = .ok (.iconst (-1), 1) := by decide +kernel
theorem d1_30 : decode prog_64_method_1_code 30 = .ok (.invokestatic 20, 3) := by decide +kernel
theorem d1_33 : decode prog_64_method_1_code 33 = .ok (.return_, 1) := by decide +kernel
theorem pd_285bII29V : parseMethodDescriptor "([II)V" = some ⟨[(.array .int), .int], none⟩ := by decide +kernel
theorem pn_1 : plainName "com/example/wayshard/wayshard/service/VertexQueue" = true := by first | (simp [plainName, overriddenIn]; done) | decide +kernel
theorem ef_1 (m : MethodId) (x0 : Addr) : entryFrame m #[(.ref x0), (.int (2 : Int32))] 2 = mkF m 0 #[.val (.ref x0), .val (.int (2 : Int32))] [] := by first | (simp [entryFrame, mkF, argsToLocals, Value.category]; done) | rfl
def Q1 (Z : State) (a0 : Addr) (h0 : Heap) (n0 : Nat) (v : Option Value) (h : Heap) (L : List Loc) : Prop := v = none ∧ Fr n0 L ∧ Keep h0 h [a0] ∧ ∃ bh bd bp, h0.size ≤ bh ∧ h0.size ≤ bd ∧ h0.size ≤ bp ∧ own_st Z n0 h a0 bh bd bp (0 : Int32) (0 : Int32) (-1 : Int32) (-1 : Int32) (0 : Int32) (0 : Int32) (0 : UInt64) (0 : UInt64)
set_option maxRecDepth 65536 in
set_option maxHeartbeats 40000000 in
theorem rm1 (l : Launch) (Z : State) (aw : Array Value) (hw : ∀ d ∈ tables_1, d.before aw Z = true) (ws : List Jvm.Cond) (a0 : Addr) (h0 : Heap) (n0 : Nat) (Z0 : n0 ≤ h0.size) (E_a0 : Exa Z h0 a0 "com/example/wayshard/wayshard/service/VertexQueue") (F_heap : Fld Z h0 a0 "com/example/wayshard/wayshard/service/VertexQueue" "heap" "[I" .null) (F_priorities : Fld Z h0 a0 "com/example/wayshard/wayshard/service/VertexQueue" "priorities" "[D" .null) (F_places : Fld Z h0 a0 "com/example/wayshard/wayshard/service/VertexQueue" "places" "[I" .null) (F_size : Fld Z h0 a0 "com/example/wayshard/wayshard/service/VertexQueue" "size" "I" (.int (0 : Int32))) (F_taken : Fld Z h0 a0 "com/example/wayshard/wayshard/service/VertexQueue" "taken" "I" (.int (0 : Int32))) (g_a0 : n0 ≤ a0) :
    MetFree l mInit (head1 (Jvm.Cond.code mInit prog_64_method_1_code 2 none :: ws) rO2) (fun a U => a = #[(.ref a0), (.int (2 : Int32))] ∧ Z.Warmed39 U.vm ∧ U.heap = h0) (fun _ _ _ _ _ => True) (fun _ U o U' => ∃ v L, o = .returned v ∧ Q1 Z a0 h0 n0 v U'.heap L ∧ FrameEnd U o U' L rO2.cells rO2.slots) := by
  refine MetFree.of_bodySF (plainFor_of_name pn_1) hisR ?_
  intro p e s m args below meth c s₁ Bd hml0 hP hK
  obtain ⟨rfl, hZ, hh⟩ := hP
  have hx := Bd.exec
  have hby := Bd.bytes
  have hml : c.maxLocals = 2 := hml0
  have hown : s.vm.findClass "com/example/wayshard/wayshard/service/VertexQueue" = some m.cls := findClass_of_methodNamed Bd.named
  have hnm := (name_of_methodNamed Bd.named Bd.method).1
  have hlk : meth.locks = false := BodyLoose.notSynchronized Bd
  have X0 : Stand p l e rO2 s m #[(.ref a0), (.int (2 : Int32))] below meth c s₁ [] 0 0 := Stand.of_body Bd
  have e0 : s₁.heap = h0 := by rw [← hh, Bd.state]; rfl
  have N0 := Fr.nil n0
  show Run p e s below (Q1 Z a0 h0 n0) rO2.cells rO2.slots s₁ (entryFrame m #[(.ref a0), (.int (2 : Int32))] 2)
  rw [ef_1]
  show Run _ _ _ _ _ _ _ s₁ (mkF m 0 #[.val (.ref a0), .val (.int (2 : Int32))] [])
  refine go (T' := s₁) (f' := (mkF m 1 #[.val (.ref a0), .val (.int (2 : Int32))] [(.ref a0)])) (by intro t k; exact XS.aloadN X0.here hx rfl (hb hby d1_0) rfl rfl k) ?_
  obtain ⟨T1, X1, e1, st1⟩ := initO X0 hx hZ hown (tw hw 6 rfl) (tw hw 7 rfl) (tw hw 8 rfl) e0 (g := (mkF m 1 #[.val (.ref a0), .val (.int (2 : Int32))] [(.ref a0)])) rfl (by rw [hml]; rfl) rfl (hb hby d1_1) (by decide) (W := 0) (by show 2 * 0 + _ ≤ _; exact Nat.le_of_eq rfl) (by decide)
  refine go st1 ?_
  show Run _ _ _ _ _ _ _ T1 (mkF m 4 #[.val (.ref a0), .val (.int (2 : Int32))] [])
  refine go (T' := T1) (f' := (mkF m 5 #[.val (.ref a0), .val (.int (2 : Int32))] [(.ref a0)])) (by intro t k; exact XS.aloadN X1.here hx rfl (hb hby d1_4) rfl rfl k) ?_
  refine go (T' := T1) (f' := (mkF m 6 #[.val (.ref a0), .val (.int (2 : Int32))] [(.int (2 : Int32)), (.ref a0)])) (by intro t k; exact XS.iloadN X1.here hx rfl (hb hby d1_5) rfl k) ?_
  obtain ⟨T2, h2, kA2, X2, e2, E2, A2, EX2, st2⟩ := newPE X1 hx hZ (tw hw 9 rfl) e1 (g := (mkF m 6 #[.val (.ref a0), .val (.int (2 : Int32))] [(.int (2 : Int32)), (.ref a0)])) rfl (hb hby d1_6) rfl (by decide) (cap := 2) (by decide) (by decide) (by decide) (by decide) (ad := "[I") (by decide)
  obtain ⟨b2, g2⟩ : ∃ z, z = h0.size := ⟨_, rfl⟩
  rw [← g2] at A2 EX2 st2
  have ne_a0_b2 : a0 ≠ b2 := Nat.ne_of_lt (Nat.lt_of_lt_of_eq E_a0.lt g2.symm)
  have ge_b2 : n0 ≤ b2 := Nat.le_trans Z0 (Nat.le_of_eq g2.symm)
  have sz_b2 : h0.size ≤ b2 := Nat.le_trans (Keep.refl h0 []).1 (Nat.le_of_eq g2.symm)
  have K2 : Keep h0 h2 [] := (Keep.refl _ _).ext E2
  have E2_a0 := Exa.keep E_a0 K2
  have F2_a0_heap := Fld.keep F_heap K2 nin0
  have F2_a0_priorities := Fld.keep F_priorities K2 nin0
  have F2_a0_places := Fld.keep F_places K2 nin0
  have F2_a0_size := Fld.keep F_size K2 nin0
  have F2_a0_taken := Fld.keep F_taken K2 nin0
  have Z2 : n0 ≤ h2.size := Nat.le_trans Z0 K2.1
  have KK2 : Keep h0 h2 [a0] := (Keep.refl _ _).trans K2 all0
  have V2 : Ary Z h2 b2 .int [(.int (0 : Int32)), (.int (0 : Int32))] := Ary.new A2
  refine go st2 ?_
  show Run _ _ _ _ _ _ _ T2 (mkF m 8 #[.val (.ref a0), .val (.int (2 : Int32))] [(.ref b2), (.ref a0)])
  obtain ⟨T3, h3, X3, e3, W3, st3⟩ := putF X2 hx hZ hown (host := "") (Or.inl (tw hw 10 rfl)) Via.refl e2 F2_a0_heap E2_a0 (Or.inr ⟨(tw hw 11 rfl), rfl, hnm⟩) (tw hw 1 rfl) (ty := (.array .int)) (by decide) rfl rfl (g := (mkF m 8 #[.val (.ref a0), .val (.int (2 : Int32))] [(.ref b2), (.ref a0)])) rfl rfl (hb hby d1_8)
  have K3 : Keep h2 h3 [a0] := Keep.of_wr W3
  have F3_a0_heap : Fld Z h3 a0 "com/example/wayshard/wayshard/service/VertexQueue" "heap" "[I" (.ref b2) := F2_a0_heap.same W3
  have F3_a0_priorities := Fld.other W3 F2_a0_priorities (Or.inr (slot_ne (Or.inr (tw hw 14 rfl)) (Or.inr (tw hw 11 rfl)) (by decide) (t := (.array .double)) (t' := (.array .int)) (by decide) (by decide)))
  have F3_a0_places := Fld.other W3 F2_a0_places (Or.inr (slot_ne (Or.inr (tw hw 16 rfl)) (Or.inr (tw hw 11 rfl)) (by decide) (t := (.array .int)) (t' := (.array .int)) (by decide) (by decide)))
  have F3_a0_size := Fld.other W3 F2_a0_size (Or.inr (slot_ne (Or.inl (tw hw 31 rfl)) (Or.inr (tw hw 11 rfl)) (by decide) (t := .int) (t' := (.array .int)) (by decide) (by decide)))
  have F3_a0_taken := Fld.other W3 F2_a0_taken (Or.inr (slot_ne (Or.inl (tw hw 33 rfl)) (Or.inr (tw hw 11 rfl)) (by decide) (t := .int) (t' := (.array .int)) (by decide) (by decide)))
  have N3 := Fr.snoc X3 N0 g_a0
  have E3_a0 := Exa.keep E2_a0 K3
  have E3_b2 := Exa.keep EX2 K3
  have A3_b2 := Ary.keep V2 K3 (ninS (Ne.symm ne_a0_b2) nin0)
  have Z3 : n0 ≤ h3.size := Nat.le_trans Z2 K3.1
  have KK3 : Keep h0 h3 [a0] := KK2.trans K3 (allS (Or.inl (List.mem_of_getElem? (i := 0) rfl)) all0)
  refine go st3 ?_
  show Run _ _ _ _ _ _ _ T3 (mkF m 11 #[.val (.ref a0), .val (.int (2 : Int32))] [])
  refine go (T' := T3) (f' := (mkF m 12 #[.val (.ref a0), .val (.int (2 : Int32))] [(.ref a0)])) (by intro t k; exact XS.aloadN X3.here hx rfl (hb hby d1_11) rfl rfl k) ?_
  refine go (T' := T3) (f' := (mkF m 13 #[.val (.ref a0), .val (.int (2 : Int32))] [(.int (2 : Int32)), (.ref a0)])) (by intro t k; exact XS.iloadN X3.here hx rfl (hb hby d1_12) rfl k) ?_
  obtain ⟨T4, h4, kA4, X4, e4, E4, A4, EX4, st4⟩ := newPE X3 hx hZ (tw hw 12 rfl) e3 (g := (mkF m 13 #[.val (.ref a0), .val (.int (2 : Int32))] [(.int (2 : Int32)), (.ref a0)])) rfl (hb hby d1_13) rfl (by decide) (cap := 2) (by decide) (by decide) (by decide) (by decide) (ad := "[D") (by decide)
  obtain ⟨b4, g4⟩ : ∃ z, z = h3.size := ⟨_, rfl⟩
  rw [← g4] at A4 EX4 st4
  have ne_a0_b4 : a0 ≠ b4 := Nat.ne_of_lt (Nat.lt_of_lt_of_eq E3_a0.lt g4.symm)
  have ne_b2_b4 : b2 ≠ b4 := Nat.ne_of_lt (Nat.lt_of_lt_of_eq E3_b2.lt g4.symm)
  have ge_b4 : n0 ≤ b4 := Nat.le_trans Z3 (Nat.le_of_eq g4.symm)
  have sz_b4 : h0.size ≤ b4 := Nat.le_trans KK3.1 (Nat.le_of_eq g4.symm)
  have K4 : Keep h3 h4 [] := (Keep.refl _ _).ext E4
  have E4_a0 := Exa.keep E3_a0 K4
  have E4_b2 := Exa.keep E3_b2 K4
  have F4_a0_heap := Fld.keep F3_a0_heap K4 nin0
  have F4_a0_priorities := Fld.keep F3_a0_priorities K4 nin0
  have F4_a0_places := Fld.keep F3_a0_places K4 nin0
  have F4_a0_size := Fld.keep F3_a0_size K4 nin0
  have F4_a0_taken := Fld.keep F3_a0_taken K4 nin0
  have A4_b2 := Ary.keep A3_b2 K4 nin0
  have Z4 : n0 ≤ h4.size := Nat.le_trans Z3 K4.1
  have KK4 : Keep h0 h4 [a0] := KK3.trans K4 all0
  have V4 : Ary Z h4 b4 .double [(.double (0 : UInt64)), (.double (0 : UInt64))] := Ary.new A4
  refine go st4 ?_
  show Run _ _ _ _ _ _ _ T4 (mkF m 15 #[.val (.ref a0), .val (.int (2 : Int32))] [(.ref b4), (.ref a0)])
  obtain ⟨T5, h5, X5, e5, W5, st5⟩ := putF X4 hx hZ hown (host := "") (Or.inl (tw hw 13 rfl)) Via.refl e4 F4_a0_priorities E4_a0 (Or.inr ⟨(tw hw 14 rfl), rfl, hnm⟩) (tw hw 1 rfl) (ty := (.array .double)) (by decide) rfl rfl (g := (mkF m 15 #[.val (.ref a0), .val (.int (2 : Int32))] [(.ref b4), (.ref a0)])) rfl rfl (hb hby d1_15)
  have K5 : Keep h4 h5 [a0] := Keep.of_wr W5
  have F5_a0_heap := Fld.other W5 F4_a0_heap (Or.inr (slot_ne (Or.inr (tw hw 11 rfl)) (Or.inr (tw hw 14 rfl)) (by decide) (t := (.array .int)) (t' := (.array .double)) (by decide) (by decide)))
  have F5_a0_priorities : Fld Z h5 a0 "com/example/wayshard/wayshard/service/VertexQueue" "priorities" "[D" (.ref b4) := F4_a0_priorities.same W5
  have F5_a0_places := Fld.other W5 F4_a0_places (Or.inr (slot_ne (Or.inr (tw hw 16 rfl)) (Or.inr (tw hw 14 rfl)) (by decide) (t := (.array .int)) (t' := (.array .double)) (by decide) (by decide)))
  have F5_a0_size := Fld.other W5 F4_a0_size (Or.inr (slot_ne (Or.inl (tw hw 31 rfl)) (Or.inr (tw hw 14 rfl)) (by decide) (t := .int) (t' := (.array .double)) (by decide) (by decide)))
  have F5_a0_taken := Fld.other W5 F4_a0_taken (Or.inr (slot_ne (Or.inl (tw hw 33 rfl)) (Or.inr (tw hw 14 rfl)) (by decide) (t := .int) (t' := (.array .double)) (by decide) (by decide)))
  have N5 := Fr.snoc X5 N3 g_a0
  have E5_a0 := Exa.keep E4_a0 K5
  have E5_b2 := Exa.keep E4_b2 K5
  have E5_b4 := Exa.keep EX4 K5
  have A5_b2 := Ary.keep A4_b2 K5 (ninS (Ne.symm ne_a0_b2) nin0)
  have A5_b4 := Ary.keep V4 K5 (ninS (Ne.symm ne_a0_b4) nin0)
  have Z5 : n0 ≤ h5.size := Nat.le_trans Z4 K5.1
  have KK5 : Keep h0 h5 [a0] := KK4.trans K5 (allS (Or.inl (List.mem_of_getElem? (i := 0) rfl)) all0)
  refine go st5 ?_
  show Run _ _ _ _ _ _ _ T5 (mkF m 18 #[.val (.ref a0), .val (.int (2 : Int32))] [])
  refine go (T' := T5) (f' := (mkF m 19 #[.val (.ref a0), .val (.int (2 : Int32))] [(.ref a0)])) (by intro t k; exact XS.aloadN X5.here hx rfl (hb hby d1_18) rfl rfl k) ?_
  refine go (T' := T5) (f' := (mkF m 20 #[.val (.ref a0), .val (.int (2 : Int32))] [(.int (2 : Int32)), (.ref a0)])) (by intro t k; exact XS.iloadN X5.here hx rfl (hb hby d1_19) rfl k) ?_
  obtain ⟨T6, h6, kA6, X6, e6, E6, A6, EX6, st6⟩ := newPE X5 hx hZ (tw hw 9 rfl) e5 (g := (mkF m 20 #[.val (.ref a0), .val (.int (2 : Int32))] [(.int (2 : Int32)), (.ref a0)])) rfl (hb hby d1_20) rfl (by decide) (cap := 2) (by decide) (by decide) (by decide) (by decide) (ad := "[I") (by decide)
  obtain ⟨b6, g6⟩ : ∃ z, z = h5.size := ⟨_, rfl⟩
  rw [← g6] at A6 EX6 st6
  have ne_a0_b6 : a0 ≠ b6 := Nat.ne_of_lt (Nat.lt_of_lt_of_eq E5_a0.lt g6.symm)
  have ne_b2_b6 : b2 ≠ b6 := Nat.ne_of_lt (Nat.lt_of_lt_of_eq E5_b2.lt g6.symm)
  have ne_b4_b6 : b4 ≠ b6 := Nat.ne_of_lt (Nat.lt_of_lt_of_eq E5_b4.lt g6.symm)
  have ge_b6 : n0 ≤ b6 := Nat.le_trans Z5 (Nat.le_of_eq g6.symm)
  have sz_b6 : h0.size ≤ b6 := Nat.le_trans KK5.1 (Nat.le_of_eq g6.symm)
  have K6 : Keep h5 h6 [] := (Keep.refl _ _).ext E6
  have E6_a0 := Exa.keep E5_a0 K6
  have E6_b2 := Exa.keep E5_b2 K6
  have E6_b4 := Exa.keep E5_b4 K6
  have F6_a0_heap := Fld.keep F5_a0_heap K6 nin0
  have F6_a0_priorities := Fld.keep F5_a0_priorities K6 nin0
  have F6_a0_places := Fld.keep F5_a0_places K6 nin0
  have F6_a0_size := Fld.keep F5_a0_size K6 nin0
  have F6_a0_taken := Fld.keep F5_a0_taken K6 nin0
  have A6_b2 := Ary.keep A5_b2 K6 nin0
  have A6_b4 := Ary.keep A5_b4 K6 nin0
  have Z6 : n0 ≤ h6.size := Nat.le_trans Z5 K6.1
  have KK6 : Keep h0 h6 [a0] := KK5.trans K6 all0
  have V6 : Ary Z h6 b6 .int [(.int (0 : Int32)), (.int (0 : Int32))] := Ary.new A6
  refine go st6 ?_
  show Run _ _ _ _ _ _ _ T6 (mkF m 22 #[.val (.ref a0), .val (.int (2 : Int32))] [(.ref b6), (.ref a0)])
  obtain ⟨T7, h7, X7, e7, W7, st7⟩ := putF X6 hx hZ hown (host := "") (Or.inl (tw hw 15 rfl)) Via.refl e6 F6_a0_places E6_a0 (Or.inr ⟨(tw hw 16 rfl), rfl, hnm⟩) (tw hw 1 rfl) (ty := (.array .int)) (by decide) rfl rfl (g := (mkF m 22 #[.val (.ref a0), .val (.int (2 : Int32))] [(.ref b6), (.ref a0)])) rfl rfl (hb hby d1_22)
  have K7 : Keep h6 h7 [a0] := Keep.of_wr W7
  have F7_a0_heap := Fld.other W7 F6_a0_heap (Or.inr (slot_ne (Or.inr (tw hw 11 rfl)) (Or.inr (tw hw 16 rfl)) (by decide) (t := (.array .int)) (t' := (.array .int)) (by decide) (by decide)))
  have F7_a0_priorities := Fld.other W7 F6_a0_priorities (Or.inr (slot_ne (Or.inr (tw hw 14 rfl)) (Or.inr (tw hw 16 rfl)) (by decide) (t := (.array .double)) (t' := (.array .int)) (by decide) (by decide)))
  have F7_a0_places : Fld Z h7 a0 "com/example/wayshard/wayshard/service/VertexQueue" "places" "[I" (.ref b6) := F6_a0_places.same W7
  have F7_a0_size := Fld.other W7 F6_a0_size (Or.inr (slot_ne (Or.inl (tw hw 31 rfl)) (Or.inr (tw hw 16 rfl)) (by decide) (t := .int) (t' := (.array .int)) (by decide) (by decide)))
  have F7_a0_taken := Fld.other W7 F6_a0_taken (Or.inr (slot_ne (Or.inl (tw hw 33 rfl)) (Or.inr (tw hw 16 rfl)) (by decide) (t := .int) (t' := (.array .int)) (by decide) (by decide)))
  have N7 := Fr.snoc X7 N5 g_a0
  have E7_a0 := Exa.keep E6_a0 K7
  have E7_b2 := Exa.keep E6_b2 K7
  have E7_b4 := Exa.keep E6_b4 K7
  have E7_b6 := Exa.keep EX6 K7
  have A7_b2 := Ary.keep A6_b2 K7 (ninS (Ne.symm ne_a0_b2) nin0)
  have A7_b4 := Ary.keep A6_b4 K7 (ninS (Ne.symm ne_a0_b4) nin0)
  have A7_b6 := Ary.keep V6 K7 (ninS (Ne.symm ne_a0_b6) nin0)
  have Z7 : n0 ≤ h7.size := Nat.le_trans Z6 K7.1
  have KK7 : Keep h0 h7 [a0] := KK6.trans K7 (allS (Or.inl (List.mem_of_getElem? (i := 0) rfl)) all0)
  refine go st7 ?_
  show Run _ _ _ _ _ _ _ T7 (mkF m 25 #[.val (.ref a0), .val (.int (2 : Int32))] [])
  refine go (T' := T7) (f' := (mkF m 26 #[.val (.ref a0), .val (.int (2 : Int32))] [(.ref a0)])) (by intro t k; exact XS.aloadN X7.here hx rfl (hb hby d1_25) rfl rfl k) ?_
  obtain ⟨T8, X8, e8, st8⟩ := getF X7 hx hZ hown (host := "") (Or.inl (tw hw 15 rfl)) Via.refl e7 F7_a0_places (g := (mkF m 26 #[.val (.ref a0), .val (.int (2 : Int32))] [(.ref a0)])) rfl rfl (hb hby d1_26)
  refine go st8 ?_
  show Run _ _ _ _ _ _ _ T8 (mkF m 29 #[.val (.ref a0), .val (.int (2 : Int32))] [(.ref b6)])
  refine go (T' := T8) (f' := (mkF m 30 #[.val (.ref a0), .val (.int (2 : Int32))] [(.int (-1 : Int32)), (.ref b6)])) (by intro t k; exact XS.iconst X8.here hx rfl (hb hby d1_29) k) ?_
  obtain ⟨_, _, ⟨T9, Lz9, kz9, nz9⟩, -, X9, ⟨Lc9, hQ9, lz9, yz9, zz9⟩, st9⟩ := Jvm.LawKit.callS X8 hx (y := (⟨"java/util/Arrays", "fill", "([II)V"⟩ : MethodName)) hown (mvT hZ (tw hw 17 rfl)) (mvT hZ (tw hw 18 rfl)) (mvT hZ (tw hw 19 rfl)) (mvT hZ (tw hw 20 rfl)) (by decide) (backOf (W := 0) (rm3 l Z aw hw [] b6  h7 n0 Z7 A7_b6 ge_b6) hZ (tw hw 20 rfl) (tw hw 19 rfl) (by decide) (by decide)) (g := (mkF m 30 #[.val (.ref a0), .val (.int (2 : Int32))] [(.int (-1 : Int32)), (.ref b6)])) rfl (by rw [hml]; rfl) (argsL := [(.ref b6), (.int (-1 : Int32))]) (rest := []) (lenOf pd_285bII29V rfl) rfl (by show 2 * 0 + _ ≤ _; exact Nat.le_of_eq rfl) (hb hby d1_30) (fun _ _ => ⟨rfl, e8, (by decide : 3 + 0 ≤ _), (by decide : 6 + 0 ≤ _)⟩)
  dsimp only [Pt.U, Pt.locs, Pt.cells, Pt.slots] at X9 lz9 yz9 zz9 st9 hQ9
  subst lz9 yz9 zz9
  obtain ⟨rfl, N9q, K9, Aq9⟩ := hQ9
  have E9_a0 := Exa.keep E7_a0 K9
  have E9_b2 := Exa.keep E7_b2 K9
  have E9_b4 := Exa.keep E7_b4 K9
  have E9_b6 := Exa.keep E7_b6 K9
  have F9_a0_heap := Fld.keep F7_a0_heap K9 (ninS ne_a0_b6 nin0)
  have F9_a0_priorities := Fld.keep F7_a0_priorities K9 (ninS ne_a0_b6 nin0)
  have F9_a0_places := Fld.keep F7_a0_places K9 (ninS ne_a0_b6 nin0)
  have F9_a0_size := Fld.keep F7_a0_size K9 (ninS ne_a0_b6 nin0)
  have F9_a0_taken := Fld.keep F7_a0_taken K9 (ninS ne_a0_b6 nin0)
  have A9_b2 := Ary.keep A7_b2 K9 (ninS ne_b2_b6 nin0)
  have A9_b4 := Ary.keep A7_b4 K9 (ninS ne_b4_b6 nin0)
  have Z9 : n0 ≤ T9.heap.size := Nat.le_trans Z7 K9.1
  have KK9 : Keep h0 T9.heap [a0] := KK7.trans K9 (allS (Or.inr sz_b6) all0)
  have N9 := Fr.app N7 N9q
  refine go st9 ?_
  show Run _ _ _ _ _ _ _ T9 (mkF m 33 #[.val (.ref a0), .val (.int (2 : Int32))] [])
  refine retV X9 hx Bd.returns (hb hby d1_33) hlk (by decide) (by decide) ?_
  show Q1 Z a0 h0 n0 _ T9.heap _
  exact ⟨rfl, N9, KK9, ⟨_, _, _, sz_b2, sz_b4, sz_b6, ⟨E9_a0, F9_a0_heap, F9_a0_priorities, F9_a0_places, F9_a0_size, F9_a0_taken, A9_b2, A9_b4, Aq9, g_a0, ge_b2, ge_b4, ge_b6, ne_a0_b2, ne_a0_b4, ne_a0_b6, ne_b2_b4, ne_b2_b6, ne_b4_b6⟩⟩⟩
theorem own_01 {z y : Int32} (h : z = if y = 0 then 0 else 1) : z = 0 ∨ z = 1 := by
  by_cases q : y = 0
  · rw [if_pos q] at h; exact Or.inl h
  · rw [if_neg q] at h; exact Or.inr h
theorem own_v (z : Int32) (k : Int) (q : z.toInt = k) : z = Int32.ofInt k := by rw [← q, Int32.ofInt_toInt]
theorem own_bit {z y : Int32} (h : z = y &&& (1 : Int32)) : z = 0 ∨ z = 1 := by
  have hx := c_and y 1 (by decide)
  rw [← h] at hx
  have e1 : (1 : Int32).toInt = 1 := rfl
  have : z.toInt = 0 ∨ z.toInt = 1 := by omega
  rcases this with q | q
  · exact Or.inl (own_v _ _ q)
  · exact Or.inr (own_v _ _ q)
theorem own_p {z y k : Int32} (h : z = own_min (y &&& (3 : Int32)) k) (h0 : 0 ≤ k.toInt) : 0 ≤ z.toInt ∧ z.toInt ≤ k.toInt := by
  have hx := c_and y 3 (by decide)
  unfold own_min at h
  split at h
  · rw [h]; omega
  · rename_i q
    rw [Int32.lt_iff_toInt_lt] at q
    rw [h]; omega
theorem own_p0 {z y : Int32} (h : z = own_min (y &&& (3 : Int32)) (0 : Int32)) : z = 0 ∨ z = 0 := by
  have := own_p h (by decide)
  have e : (0 : Int32).toInt = 0 := rfl
  have q : z.toInt = 0 := by omega
  exact Or.inl (own_v z 0 q)
theorem own_p1 {z y : Int32} (h : z = own_min (y &&& (3 : Int32)) (1 : Int32)) : z = 0 ∨ z = 1 := by
  have := own_p h (by decide)
  have e : (1 : Int32).toInt = 1 := rfl
  have : z.toInt = 0 ∨ z.toInt = 1 := by omega
  rcases this with q | q
  · exact Or.inl (own_v _ _ q)
  · exact Or.inr (own_v _ _ q)
theorem own_p2 {z y : Int32} (h : z = own_min (y &&& (3 : Int32)) (2 : Int32)) : z = 0 ∨ z = 1 ∨ z = 2 := by
  have := own_p h (by decide)
  have e : (2 : Int32).toInt = 2 := rfl
  have : z.toInt = 0 ∨ z.toInt = 1 ∨ z.toInt = 2 := by omega
  rcases this with q | q | q
  · exact Or.inl (own_v _ _ q)
  · exact Or.inr (Or.inl (own_v _ _ q))
  · exact Or.inr (Or.inr (own_v _ _ q))
theorem d6_0 : decode prog_64_method_2_code 0 = .ok (.aload_n 0, 1) := by decide +kernel
theorem d6_1 : decode prog_64_method_2_code 1 = .ok (.getfield 26, 3) := by decide +kernel
theorem d6_4 : decode prog_64_method_2_code 4 = .ok (.ifCond .ne 7, 3) := by decide +kernel
theorem d6_7 : decode prog_64_method_2_code 7 = .ok (.iconst 1, 1) := by decide +kernel
theorem d6_8 : decode prog_64_method_2_code 8 = .ok (.goto 4, 3) := by decide +kernel
theorem d6_12 : decode prog_64_method_2_code 12 = .ok (.ireturn, 1) := by decide +kernel
theorem ef_6t0 (m : MethodId) (x0 : Addr) : entryFrame m #[(.ref x0)] 1 = mkF m 0 #[.val (.ref x0)] [] := by first | (simp [entryFrame, mkF, argsToLocals, Value.category]; done) | rfl
def Q6t0 (Z : State) (a0 : Addr) (bh bd bp : Addr) (x0 x1 : UInt64) (u0 : Int32) (u1 : Int32) (h0 : Heap) (n0 : Nat) (v : Option Value) (h : Heap) (L : List Loc) : Prop := v = some (.int (1 : Int32)) ∧ Fr n0 L ∧ Keep h0 h [a0, bh, bd, bp] ∧ own_st Z n0 h a0 bh bd bp u0 u1 (-1 : Int32) (-1 : Int32) (0 : Int32) (0 : Int32) x0 x1
set_option maxRecDepth 65536 in
set_option maxHeartbeats 40000000 in
theorem rm6t0 (l : Launch) (Z : State) (aw : Array Value) (hw : ∀ d ∈ tables_1, d.before aw Z = true) (ws : List Jvm.Cond) (a0 : Addr) (bh bd bp : Addr) (x0 x1 : UInt64) (u0 : Int32) (u1 : Int32) (h0 : Heap) (n0 : Nat) (Z0 : n0 ≤ h0.size) (St : own_st Z n0 h0 a0 bh bd bp u0 u1 (-1 : Int32) (-1 : Int32) (0 : Int32) (0 : Int32) x0 x1) :
    MetFree l misEmpty (head1 (Jvm.Cond.code misEmpty prog_64_method_2_code 1 (some .boolean) :: ws) rO0) (fun a U => a = #[(.ref a0)] ∧ Z.Warmed39 U.vm ∧ U.heap = h0) (fun _ _ _ _ _ => True) (fun _ U o U' => ∃ v L, o = .returned v ∧ Q6t0 Z a0 bh bd bp x0 x1 u0 u1 h0 n0 v U'.heap L ∧ FrameEnd U o U' L rO0.cells rO0.slots) := by
  refine MetFree.of_bodySF (plainFor_of_name pn_1) hisR ?_
  intro p e s m args below meth c s₁ Bd hml0 hP hK
  obtain ⟨rfl, hZ, hh⟩ := hP
  have hx := Bd.exec
  have hby := Bd.bytes
  have hml : c.maxLocals = 1 := hml0
  have hown : s.vm.findClass "com/example/wayshard/wayshard/service/VertexQueue" = some m.cls := findClass_of_methodNamed Bd.named
  have hnm := (name_of_methodNamed Bd.named Bd.method).1
  have hlk : meth.locks = false := BodyLoose.notSynchronized Bd
  have X0 : Stand p l e rO0 s m #[(.ref a0)] below meth c s₁ [] 0 0 := Stand.of_body Bd
  have e0 : s₁.heap = h0 := by rw [← hh, Bd.state]; rfl
  have N0 := Fr.nil n0
  show Run p e s below (Q6t0 Z a0 bh bd bp x0 x1 u0 u1 h0 n0) rO0.cells rO0.slots s₁ (entryFrame m #[(.ref a0)] 1)
  rw [ef_6t0]
  obtain ⟨E, Fh, Fd, Fp, Fs, Ft, Ah, Ad, Ap, g0, gh, gd, gp, n0h, n0d, n0p, nhd, nhp, ndp⟩ := St
  show Run _ _ _ _ _ _ _ s₁ (mkF m 0 #[.val (.ref a0)] [])
  refine go (T' := s₁) (f' := (mkF m 1 #[.val (.ref a0)] [(.ref a0)])) (by intro t k; exact XS.aloadN X0.here hx rfl (hb hby d6_0) rfl rfl k) ?_
  obtain ⟨T1, X1, e1, st1⟩ := getF X0 hx hZ hown (host := "") (Or.inl (tw hw 30 rfl)) Via.refl e0 Fs (g := (mkF m 1 #[.val (.ref a0)] [(.ref a0)])) rfl rfl (hb hby d6_1)
  refine go st1 ?_
  show Run _ _ _ _ _ _ _ T1 (mkF m 4 #[.val (.ref a0)] [(.int (0 : Int32))])
  refine go (T' := T1) (f' := (mkF m 7 #[.val (.ref a0)] [])) (by intro t k; exact XS.ifNo X1.here hx rfl (hb hby d6_4) rfl ((if0 _ _).trans (teq (rfl : (0 : Int32) = (0 : Int32))).2) k) ?_
  refine go (T' := T1) (f' := (mkF m 8 #[.val (.ref a0)] [(.int (1 : Int32))])) (by intro t k; exact XS.iconst X1.here hx rfl (hb hby d6_7) k) ?_
  refine go (T' := T1) (f' := (mkF m 12 #[.val (.ref a0)] [(.int (1 : Int32))])) (by intro t k; exact XS.goto X1.here hx rfl (pc0 := 8) (pc' := 12) rfl (hb hby d6_8) (by decide) (by decide) k) ?_
  refine retZ X1 hx (t := .boolean) Bd.returns (by simp) (hb hby d6_12) hlk (by decide) (by decide) ?_
  show Q6t0 Z a0 bh bd bp x0 x1 u0 u1 h0 n0 _ T1.heap _
  rw [e1]
  have hv' : (nar .boolean (1 : Int32)) = (1 : Int32) := by
    rfl
  have hv : (some (.int (nar .boolean (1 : Int32))) : Option Value) = some (.int (1 : Int32)) := congrArg (fun z => (some (.int z) : Option Value)) hv'
  exact ⟨hv, N0, (Keep.refl _ _), ⟨E, Fh, Fd, Fp, Fs, Ft, Ah, Ad, Ap, g0, gh, gd, gp, n0h, n0d, n0p, nhd, nhp, ndp⟩⟩
theorem d7_0 : decode prog_64_method_4_code 0 = .ok (.aload_n 0, 1) := by decide +kernel
theorem d7_1 : decode prog_64_method_4_code 1 = .ok (.getfield 17, 3) := by decide +kernel
theorem d7_4 : decode prog_64_method_4_code 4 = .ok (.iload_n 1, 1) := by decide +kernel
theorem d7_5 : decode prog_64_method_4_code 5 = .ok (.iaload, 1) := by decide +kernel
theorem d7_6 : decode prog_64_method_4_code 6 = .ok (.bipush (-2), 2) := by decide +kernel
theorem d7_8 : decode prog_64_method_4_code 8 = .ok (.if_icmp .ne 7, 3) := by decide +kernel
theorem d7_15 : decode prog_64_method_4_code 15 = .ok (.iconst 0, 1) := by decide +kernel
theorem d7_16 : decode prog_64_method_4_code 16 = .ok (.ireturn, 1) := by decide +kernel
theorem ef_7t1 (m : MethodId) (x0 : Addr) : entryFrame m #[(.ref x0), (.int (0 : Int32))] 2 = mkF m 0 #[.val (.ref x0), .val (.int (0 : Int32))] [] := by first | (simp [entryFrame, mkF, argsToLocals, Value.category]; done) | rfl
def Q7t1 (Z : State) (a0 : Addr) (bh bd bp : Addr) (x0 x1 : UInt64) (u0 : Int32) (u1 : Int32) (h0 : Heap) (n0 : Nat) (v : Option Value) (h : Heap) (L : List Loc) : Prop := v = some (.int (0 : Int32)) ∧ Fr n0 L ∧ Keep h0 h [a0, bh, bd, bp] ∧ own_st Z n0 h a0 bh bd bp u0 u1 (-1 : Int32) (-1 : Int32) (0 : Int32) (0 : Int32) x0 x1
set_option maxRecDepth 65536 in
set_option maxHeartbeats 40000000 in
theorem rm7t1 (l : Launch) (Z : State) (aw : Array Value) (hw : ∀ d ∈ tables_1, d.before aw Z = true) (ws : List Jvm.Cond) (a0 : Addr) (bh bd bp : Addr) (x0 x1 : UInt64) (u0 : Int32) (u1 : Int32) (h0 : Heap) (n0 : Nat) (Z0 : n0 ≤ h0.size) (St : own_st Z n0 h0 a0 bh bd bp u0 u1 (-1 : Int32) (-1 : Int32) (0 : Int32) (0 : Int32) x0 x1) :
    MetFree l misTaken (head1 (Jvm.Cond.code misTaken prog_64_method_4_code 2 (some .boolean) :: ws) rO0) (fun a U => a = #[(.ref a0), (.int (0 : Int32))] ∧ Z.Warmed39 U.vm ∧ U.heap = h0) (fun _ _ _ _ _ => True) (fun _ U o U' => ∃ v L, o = .returned v ∧ Q7t1 Z a0 bh bd bp x0 x1 u0 u1 h0 n0 v U'.heap L ∧ FrameEnd U o U' L rO0.cells rO0.slots) := by
  refine MetFree.of_bodySF (plainFor_of_name pn_1) hisR ?_
  intro p e s m args below meth c s₁ Bd hml0 hP hK
  obtain ⟨rfl, hZ, hh⟩ := hP
  have hx := Bd.exec
  have hby := Bd.bytes
  have hml : c.maxLocals = 2 := hml0
  have hown : s.vm.findClass "com/example/wayshard/wayshard/service/VertexQueue" = some m.cls := findClass_of_methodNamed Bd.named
  have hnm := (name_of_methodNamed Bd.named Bd.method).1
  have hlk : meth.locks = false := BodyLoose.notSynchronized Bd
  have X0 : Stand p l e rO0 s m #[(.ref a0), (.int (0 : Int32))] below meth c s₁ [] 0 0 := Stand.of_body Bd
  have e0 : s₁.heap = h0 := by rw [← hh, Bd.state]; rfl
  have N0 := Fr.nil n0
  show Run p e s below (Q7t1 Z a0 bh bd bp x0 x1 u0 u1 h0 n0) rO0.cells rO0.slots s₁ (entryFrame m #[(.ref a0), (.int (0 : Int32))] 2)
  rw [ef_7t1]
  obtain ⟨E, Fh, Fd, Fp, Fs, Ft, Ah, Ad, Ap, g0, gh, gd, gp, n0h, n0d, n0p, nhd, nhp, ndp⟩ := St
  show Run _ _ _ _ _ _ _ s₁ (mkF m 0 #[.val (.ref a0), .val (.int (0 : Int32))] [])
  refine go (T' := s₁) (f' := (mkF m 1 #[.val (.ref a0), .val (.int (0 : Int32))] [(.ref a0)])) (by intro t k; exact XS.aloadN X0.here hx rfl (hb hby d7_0) rfl rfl k) ?_
  obtain ⟨T1, X1, e1, st1⟩ := getF X0 hx hZ hown (host := "") (Or.inl (tw hw 15 rfl)) Via.refl e0 Fp (g := (mkF m 1 #[.val (.ref a0), .val (.int (0 : Int32))] [(.ref a0)])) rfl rfl (hb hby d7_1)
  refine go st1 ?_
  show Run _ _ _ _ _ _ _ T1 (mkF m 4 #[.val (.ref a0), .val (.int (0 : Int32))] [(.ref bp)])
  refine go (T' := T1) (f' := (mkF m 5 #[.val (.ref a0), .val (.int (0 : Int32))] [(.int (0 : Int32)), (.ref bp)])) (by intro t k; exact XS.iloadN X1.here hx rfl (hb hby d7_4) rfl k) ?_
  refine go (T' := T1) (f' := (mkF m 6 #[.val (.ref a0), .val (.int (0 : Int32))] [(.int (-1 : Int32))])) (by intro t k; exact ldI X1 hx hZ e1 Ap (j := (0 : Int32)) (v := (.int (-1 : Int32))) (by decide) rfl (g := (mkF m 5 #[.val (.ref a0), .val (.int (0 : Int32))] [(.int (0 : Int32)), (.ref bp)])) rfl rfl (hb hby d7_5) _ k) ?_
  refine go (T' := T1) (f' := (mkF m 8 #[.val (.ref a0), .val (.int (0 : Int32))] [(.int (-2 : Int32)), (.int (-1 : Int32))])) (by intro t k; exact XS.bipush X1.here hx rfl (hb hby d7_6) k) ?_
  refine go (T' := T1) (f' := (mkF m 15 #[.val (.ref a0), .val (.int (0 : Int32))] [])) (by intro t k; exact XS.icmpYes X1.here hx rfl (pc0 := 8) (pc' := 15) rfl (hb hby d7_8) rfl (feq (by decide : ¬ ((-1 : Int32) = (-2 : Int32)))).2 (by decide) (by decide) k) ?_
  refine go (T' := T1) (f' := (mkF m 16 #[.val (.ref a0), .val (.int (0 : Int32))] [(.int (0 : Int32))])) (by intro t k; exact XS.iconst X1.here hx rfl (hb hby d7_15) k) ?_
  refine retZ X1 hx (t := .boolean) Bd.returns (by simp) (hb hby d7_16) hlk (by decide) (by decide) ?_
  show Q7t1 Z a0 bh bd bp x0 x1 u0 u1 h0 n0 _ T1.heap _
  rw [e1]
  have hv' : (nar .boolean (0 : Int32)) = (0 : Int32) := by
    rfl
  have hv : (some (.int (nar .boolean (0 : Int32))) : Option Value) = some (.int (0 : Int32)) := congrArg (fun z => (some (.int z) : Option Value)) hv'
  exact ⟨hv, N0, (Keep.refl _ _), ⟨E, Fh, Fd, Fp, Fs, Ft, Ah, Ad, Ap, g0, gh, gd, gp, n0h, n0d, n0p, nhd, nhp, ndp⟩⟩
theorem ef_7t2 (m : MethodId) (x0 : Addr) : entryFrame m #[(.ref x0), (.int (1 : Int32))] 2 = mkF m 0 #[.val (.ref x0), .val (.int (1 : Int32))] [] := by first | (simp [entryFrame, mkF, argsToLocals, Value.category]; done) | rfl
def Q7t2 (Z : State) (a0 : Addr) (bh bd bp : Addr) (x0 x1 : UInt64) (u0 : Int32) (u1 : Int32) (h0 : Heap) (n0 : Nat) (v : Option Value) (h : Heap) (L : List Loc) : Prop := v = some (.int (0 : Int32)) ∧ Fr n0 L ∧ Keep h0 h [a0, bh, bd, bp] ∧ own_st Z n0 h a0 bh bd bp u0 u1 (-1 : Int32) (-1 : Int32) (0 : Int32) (0 : Int32) x0 x1
set_option maxRecDepth 65536 in
set_option maxHeartbeats 40000000 in
theorem rm7t2 (l : Launch) (Z : State) (aw : Array Value) (hw : ∀ d ∈ tables_1, d.before aw Z = true) (ws : List Jvm.Cond) (a0 : Addr) (bh bd bp : Addr) (x0 x1 : UInt64) (u0 : Int32) (u1 : Int32) (h0 : Heap) (n0 : Nat) (Z0 : n0 ≤ h0.size) (St : own_st Z n0 h0 a0 bh bd bp u0 u1 (-1 : Int32) (-1 : Int32) (0 : Int32) (0 : Int32) x0 x1) :
    MetFree l misTaken (head1 (Jvm.Cond.code misTaken prog_64_method_4_code 2 (some .boolean) :: ws) rO0) (fun a U => a = #[(.ref a0), (.int (1 : Int32))] ∧ Z.Warmed39 U.vm ∧ U.heap = h0) (fun _ _ _ _ _ => True) (fun _ U o U' => ∃ v L, o = .returned v ∧ Q7t2 Z a0 bh bd bp x0 x1 u0 u1 h0 n0 v U'.heap L ∧ FrameEnd U o U' L rO0.cells rO0.slots) := by
  refine MetFree.of_bodySF (plainFor_of_name pn_1) hisR ?_
  intro p e s m args below meth c s₁ Bd hml0 hP hK
  obtain ⟨rfl, hZ, hh⟩ := hP
  have hx := Bd.exec
  have hby := Bd.bytes
  have hml : c.maxLocals = 2 := hml0
  have hown : s.vm.findClass "com/example/wayshard/wayshard/service/VertexQueue" = some m.cls := findClass_of_methodNamed Bd.named
  have hnm := (name_of_methodNamed Bd.named Bd.method).1
  have hlk : meth.locks = false := BodyLoose.notSynchronized Bd
  have X0 : Stand p l e rO0 s m #[(.ref a0), (.int (1 : Int32))] below meth c s₁ [] 0 0 := Stand.of_body Bd
  have e0 : s₁.heap = h0 := by rw [← hh, Bd.state]; rfl
  have N0 := Fr.nil n0
  show Run p e s below (Q7t2 Z a0 bh bd bp x0 x1 u0 u1 h0 n0) rO0.cells rO0.slots s₁ (entryFrame m #[(.ref a0), (.int (1 : Int32))] 2)
  rw [ef_7t2]
  obtain ⟨E, Fh, Fd, Fp, Fs, Ft, Ah, Ad, Ap, g0, gh, gd, gp, n0h, n0d, n0p, nhd, nhp, ndp⟩ := St
  show Run _ _ _ _ _ _ _ s₁ (mkF m 0 #[.val (.ref a0), .val (.int (1 : Int32))] [])
  refine go (T' := s₁) (f' := (mkF m 1 #[.val (.ref a0), .val (.int (1 : Int32))] [(.ref a0)])) (by intro t k; exact XS.aloadN X0.here hx rfl (hb hby d7_0) rfl rfl k) ?_
  obtain ⟨T1, X1, e1, st1⟩ := getF X0 hx hZ hown (host := "") (Or.inl (tw hw 15 rfl)) Via.refl e0 Fp (g := (mkF m 1 #[.val (.ref a0), .val (.int (1 : Int32))] [(.ref a0)])) rfl rfl (hb hby d7_1)
  refine go st1 ?_
  show Run _ _ _ _ _ _ _ T1 (mkF m 4 #[.val (.ref a0), .val (.int (1 : Int32))] [(.ref bp)])
  refine go (T' := T1) (f' := (mkF m 5 #[.val (.ref a0), .val (.int (1 : Int32))] [(.int (1 : Int32)), (.ref bp)])) (by intro t k; exact XS.iloadN X1.here hx rfl (hb hby d7_4) rfl k) ?_
  refine go (T' := T1) (f' := (mkF m 6 #[.val (.ref a0), .val (.int (1 : Int32))] [(.int (-1 : Int32))])) (by intro t k; exact ldI X1 hx hZ e1 Ap (j := (1 : Int32)) (v := (.int (-1 : Int32))) (by decide) rfl (g := (mkF m 5 #[.val (.ref a0), .val (.int (1 : Int32))] [(.int (1 : Int32)), (.ref bp)])) rfl rfl (hb hby d7_5) _ k) ?_
  refine go (T' := T1) (f' := (mkF m 8 #[.val (.ref a0), .val (.int (1 : Int32))] [(.int (-2 : Int32)), (.int (-1 : Int32))])) (by intro t k; exact XS.bipush X1.here hx rfl (hb hby d7_6) k) ?_
  refine go (T' := T1) (f' := (mkF m 15 #[.val (.ref a0), .val (.int (1 : Int32))] [])) (by intro t k; exact XS.icmpYes X1.here hx rfl (pc0 := 8) (pc' := 15) rfl (hb hby d7_8) rfl (feq (by decide : ¬ ((-1 : Int32) = (-2 : Int32)))).2 (by decide) (by decide) k) ?_
  refine go (T' := T1) (f' := (mkF m 16 #[.val (.ref a0), .val (.int (1 : Int32))] [(.int (0 : Int32))])) (by intro t k; exact XS.iconst X1.here hx rfl (hb hby d7_15) k) ?_
  refine retZ X1 hx (t := .boolean) Bd.returns (by simp) (hb hby d7_16) hlk (by decide) (by decide) ?_
  show Q7t2 Z a0 bh bd bp x0 x1 u0 u1 h0 n0 _ T1.heap _
  rw [e1]
  have hv' : (nar .boolean (0 : Int32)) = (0 : Int32) := by
    rfl
  have hv : (some (.int (nar .boolean (0 : Int32))) : Option Value) = some (.int (0 : Int32)) := congrArg (fun z => (some (.int z) : Option Value)) hv'
  exact ⟨hv, N0, (Keep.refl _ _), ⟨E, Fh, Fd, Fp, Fs, Ft, Ah, Ad, Ap, g0, gh, gd, gp, n0h, n0d, n0p, nhd, nhp, ndp⟩⟩
theorem d10_0 : decode prog_64_method_9_code 0 = .ok (.aload_n 0, 1) := by decide +kernel
theorem d10_1 : decode prog_64_method_9_code 1 = .ok (.getfield 7, 3) := by decide +kernel
theorem d10_4 : decode prog_64_method_9_code 4 = .ok (.iload_n 2, 1) := by decide +kernel
theorem d10_5 : decode prog_64_method_9_code 5 = .ok (.iload_n 1, 1) := by decide +kernel
theorem d10_6 : decode prog_64_method_9_code 6 = .ok (.iastore, 1) := by decide +kernel
theorem d10_7 : decode prog_64_method_9_code 7 = .ok (.aload_n 0, 1) := by decide +kernel
theorem d10_8 : decode prog_64_method_9_code 8 = .ok (.getfield 17, 3) := by decide +kernel
theorem d10_11 : decode prog_64_method_9_code 11 = .ok (.iload_n 1, 1) := by decide +kernel
theorem d10_12 : decode prog_64_method_9_code 12 = .ok (.iload_n 2, 1) := by decide +kernel
theorem d10_13 : decode prog_64_method_9_code 13 = .ok (.iastore, 1) := by decide +kernel
theorem d10_14 : decode prog_64_method_9_code 14 = .ok (.return_, 1) := by decide +kernel
theorem ef_10t5 (m : MethodId) (x0 : Addr) : entryFrame m #[(.ref x0), (.int (0 : Int32)), (.int (0 : Int32))] 3 = mkF m 0 #[.val (.ref x0), .val (.int (0 : Int32)), .val (.int (0 : Int32))] [] := by first | (simp [entryFrame, mkF, argsToLocals, Value.category]; done) | rfl
def Q10t5 (Z : State) (a0 : Addr) (bh bd bp : Addr) (x0 x1 : UInt64) (u1 : Int32) (h0 : Heap) (n0 : Nat) (v : Option Value) (h : Heap) (L : List Loc) : Prop := v = none ∧ Fr n0 L ∧ Keep h0 h [a0, bh, bd, bp] ∧ own_st Z n0 h a0 bh bd bp (0 : Int32) u1 (0 : Int32) (-1 : Int32) (1 : Int32) (0 : Int32) x0 x1
set_option maxRecDepth 65536 in
set_option maxHeartbeats 40000000 in
theorem rm10t5 (l : Launch) (Z : State) (aw : Array Value) (hw : ∀ d ∈ tables_1, d.before aw Z = true) (ws : List Jvm.Cond) (a0 : Addr) (bh bd bp : Addr) (x0 x1 : UInt64) (u1 : Int32) (h0 : Heap) (n0 : Nat) (Z0 : n0 ≤ h0.size) (St : own_st Z n0 h0 a0 bh bd bp (0 : Int32) u1 (0 : Int32) (-1 : Int32) (1 : Int32) (0 : Int32) x0 x1) :
    MetFree l mmove (head1 (Jvm.Cond.code mmove prog_64_method_9_code 3 none :: ws) rO0) (fun a U => a = #[(.ref a0), (.int (0 : Int32)), (.int (0 : Int32))] ∧ Z.Warmed39 U.vm ∧ U.heap = h0) (fun _ _ _ _ _ => True) (fun _ U o U' => ∃ v L, o = .returned v ∧ Q10t5 Z a0 bh bd bp x0 x1 u1 h0 n0 v U'.heap L ∧ FrameEnd U o U' L rO0.cells rO0.slots) := by
  refine MetFree.of_bodySF (plainFor_of_name pn_1) hisR ?_
  intro p e s m args below meth c s₁ Bd hml0 hP hK
  obtain ⟨rfl, hZ, hh⟩ := hP
  have hx := Bd.exec
  have hby := Bd.bytes
  have hml : c.maxLocals = 3 := hml0
  have hown : s.vm.findClass "com/example/wayshard/wayshard/service/VertexQueue" = some m.cls := findClass_of_methodNamed Bd.named
  have hnm := (name_of_methodNamed Bd.named Bd.method).1
  have hlk : meth.locks = false := BodyLoose.notSynchronized Bd
  have X0 : Stand p l e rO0 s m #[(.ref a0), (.int (0 : Int32)), (.int (0 : Int32))] below meth c s₁ [] 0 0 := Stand.of_body Bd
  have e0 : s₁.heap = h0 := by rw [← hh, Bd.state]; rfl
  have N0 := Fr.nil n0
  show Run p e s below (Q10t5 Z a0 bh bd bp x0 x1 u1 h0 n0) rO0.cells rO0.slots s₁ (entryFrame m #[(.ref a0), (.int (0 : Int32)), (.int (0 : Int32))] 3)
  rw [ef_10t5]
  obtain ⟨E, Fh, Fd, Fp, Fs, Ft, Ah, Ad, Ap, g0, gh, gd, gp, n0h, n0d, n0p, nhd, nhp, ndp⟩ := St
  show Run _ _ _ _ _ _ _ s₁ (mkF m 0 #[.val (.ref a0), .val (.int (0 : Int32)), .val (.int (0 : Int32))] [])
  refine go (T' := s₁) (f' := (mkF m 1 #[.val (.ref a0), .val (.int (0 : Int32)), .val (.int (0 : Int32))] [(.ref a0)])) (by intro t k; exact XS.aloadN X0.here hx rfl (hb hby d10_0) rfl rfl k) ?_
  obtain ⟨T1, X1, e1, st1⟩ := getF X0 hx hZ hown (host := "") (Or.inl (tw hw 10 rfl)) Via.refl e0 Fh (g := (mkF m 1 #[.val (.ref a0), .val (.int (0 : Int32)), .val (.int (0 : Int32))] [(.ref a0)])) rfl rfl (hb hby d10_1)
  refine go st1 ?_
  show Run _ _ _ _ _ _ _ T1 (mkF m 4 #[.val (.ref a0), .val (.int (0 : Int32)), .val (.int (0 : Int32))] [(.ref bh)])
  refine go (T' := T1) (f' := (mkF m 5 #[.val (.ref a0), .val (.int (0 : Int32)), .val (.int (0 : Int32))] [(.int (0 : Int32)), (.ref bh)])) (by intro t k; exact XS.iloadN X1.here hx rfl (hb hby d10_4) rfl k) ?_
  refine go (T' := T1) (f' := (mkF m 6 #[.val (.ref a0), .val (.int (0 : Int32)), .val (.int (0 : Int32))] [(.int (0 : Int32)), (.int (0 : Int32)), (.ref bh)])) (by intro t k; exact XS.iloadN X1.here hx rfl (hb hby d10_5) rfl k) ?_
  obtain ⟨cl2, Ar2, hin2⟩ := Ary.st (j := (0 : Int32)) Ah (by decide) (by show (0 : Int32).toNatClampNeg < 2; decide)
  obtain ⟨T2, h2, X2, e2, W2, st2⟩ := stI X1 hx hZ e1 Ar2 (j := (0 : Int32)) hin2 (g := (mkF m 6 #[.val (.ref a0), .val (.int (0 : Int32)), .val (.int (0 : Int32))] [(.int (0 : Int32)), (.int (0 : Int32)), (.ref bh)])) rfl rfl (hb hby d10_6)
  have K2 : Keep h0 h2 [bh] := Keep.of_wr W2
  have V2 : Ary Z h2 bh .int [(.int (0 : Int32)), (.int u1)] := Ary.set Ah W2 rfl
  have N2 := Fr.snoc X2 N0 gh
  have E2_a0 := Exa.keep E K2
  have F2_a0_heap := Fld.keep Fh K2 (ninS n0h nin0)
  have F2_a0_priorities := Fld.keep Fd K2 (ninS n0h nin0)
  have F2_a0_places := Fld.keep Fp K2 (ninS n0h nin0)
  have F2_a0_size := Fld.keep Fs K2 (ninS n0h nin0)
  have F2_a0_taken := Fld.keep Ft K2 (ninS n0h nin0)
  have A2_bd := Ary.keep Ad K2 (ninS (Ne.symm nhd) nin0)
  have A2_bp := Ary.keep Ap K2 (ninS (Ne.symm nhp) nin0)
  have Z2 : n0 ≤ h2.size := Nat.le_trans Z0 K2.1
  have KK2 : Keep h0 h2 [a0, bh, bd, bp] := (Keep.refl _ _).trans K2 (allS (Or.inl (List.mem_of_getElem? (i := 1) rfl)) all0)
  refine go st2 ?_
  show Run _ _ _ _ _ _ _ T2 (mkF m 7 #[.val (.ref a0), .val (.int (0 : Int32)), .val (.int (0 : Int32))] [])
  refine go (T' := T2) (f' := (mkF m 8 #[.val (.ref a0), .val (.int (0 : Int32)), .val (.int (0 : Int32))] [(.ref a0)])) (by intro t k; exact XS.aloadN X2.here hx rfl (hb hby d10_7) rfl rfl k) ?_
  obtain ⟨T3, X3, e3, st3⟩ := getF X2 hx hZ hown (host := "") (Or.inl (tw hw 15 rfl)) Via.refl e2 F2_a0_places (g := (mkF m 8 #[.val (.ref a0), .val (.int (0 : Int32)), .val (.int (0 : Int32))] [(.ref a0)])) rfl rfl (hb hby d10_8)
  refine go st3 ?_
  show Run _ _ _ _ _ _ _ T3 (mkF m 11 #[.val (.ref a0), .val (.int (0 : Int32)), .val (.int (0 : Int32))] [(.ref bp)])
  refine go (T' := T3) (f' := (mkF m 12 #[.val (.ref a0), .val (.int (0 : Int32)), .val (.int (0 : Int32))] [(.int (0 : Int32)), (.ref bp)])) (by intro t k; exact XS.iloadN X3.here hx rfl (hb hby d10_11) rfl k) ?_
  refine go (T' := T3) (f' := (mkF m 13 #[.val (.ref a0), .val (.int (0 : Int32)), .val (.int (0 : Int32))] [(.int (0 : Int32)), (.int (0 : Int32)), (.ref bp)])) (by intro t k; exact XS.iloadN X3.here hx rfl (hb hby d10_12) rfl k) ?_
  obtain ⟨cl4, Ar4, hin4⟩ := Ary.st (j := (0 : Int32)) A2_bp (by decide) (by show (0 : Int32).toNatClampNeg < 2; decide)
  obtain ⟨T4, h4, X4, e4, W4, st4⟩ := stI X3 hx hZ e3 Ar4 (j := (0 : Int32)) hin4 (g := (mkF m 13 #[.val (.ref a0), .val (.int (0 : Int32)), .val (.int (0 : Int32))] [(.int (0 : Int32)), (.int (0 : Int32)), (.ref bp)])) rfl rfl (hb hby d10_13)
  have K4 : Keep h2 h4 [bp] := Keep.of_wr W4
  have V4 : Ary Z h4 bp .int [(.int (0 : Int32)), (.int (-1 : Int32))] := Ary.set A2_bp W4 rfl
  have N4 := Fr.snoc X4 N2 gp
  have E4_a0 := Exa.keep E2_a0 K4
  have F4_a0_heap := Fld.keep F2_a0_heap K4 (ninS n0p nin0)
  have F4_a0_priorities := Fld.keep F2_a0_priorities K4 (ninS n0p nin0)
  have F4_a0_places := Fld.keep F2_a0_places K4 (ninS n0p nin0)
  have F4_a0_size := Fld.keep F2_a0_size K4 (ninS n0p nin0)
  have F4_a0_taken := Fld.keep F2_a0_taken K4 (ninS n0p nin0)
  have A4_bh := Ary.keep V2 K4 (ninS nhp nin0)
  have A4_bd := Ary.keep A2_bd K4 (ninS ndp nin0)
  have Z4 : n0 ≤ h4.size := Nat.le_trans Z2 K4.1
  have KK4 : Keep h0 h4 [a0, bh, bd, bp] := KK2.trans K4 (allS (Or.inl (List.mem_of_getElem? (i := 3) rfl)) all0)
  refine go st4 ?_
  show Run _ _ _ _ _ _ _ T4 (mkF m 14 #[.val (.ref a0), .val (.int (0 : Int32)), .val (.int (0 : Int32))] [])
  refine retV X4 hx Bd.returns (hb hby d10_14) hlk (by decide) (by decide) ?_
  show Q10t5 Z a0 bh bd bp x0 x1 u1 h0 n0 _ T4.heap _
  rw [e4]
  exact ⟨rfl, N4, KK4, ⟨E4_a0, F4_a0_heap, F4_a0_priorities, F4_a0_places, F4_a0_size, F4_a0_taken, A4_bh, A4_bd, V4, g0, gh, gd, gp, n0h, n0d, n0p, nhd, nhp, ndp⟩⟩
theorem d9_0 : decode prog_64_method_7_code 0 = .ok (.aload_n 0, 1) := by decide +kernel
theorem d9_1 : decode prog_64_method_7_code 1 = .ok (.getfield 7, 3) := by decide +kernel
theorem d9_4 : decode prog_64_method_7_code 4 = .ok (.iload_n 1, 1) := by decide +kernel
theorem d9_5 : decode prog_64_method_7_code 5 = .ok (.iaload, 1) := by decide +kernel
theorem d9_6 : decode prog_64_method_7_code 6 = .ok (.istore_n 2, 1) := by decide +kernel
theorem d9_7 : decode prog_64_method_7_code 7 = .ok (.iload_n 1, 1) := by decide +kernel
theorem d9_8 : decode prog_64_method_7_code 8 = .ok (.istore_n 3, 1) := by decide +kernel
theorem d9_9 : decode prog_64_method_7_code 9 = .ok (.iload_n 3, 1) := by decide +kernel
theorem d9_10 : decode prog_64_method_7_code 10 = .ok (.ifCond .le 53, 3) := by decide +kernel
theorem d9_63 : decode prog_64_method_7_code 63 = .ok (.aload_n 0, 1) := by decide +kernel
theorem d9_64 : decode prog_64_method_7_code 64 = .ok (.iload_n 2, 1) := by decide +kernel
theorem d9_65 : decode prog_64_method_7_code 65 = .ok (.iload_n 3, 1) := by decide +kernel
theorem d9_66 : decode prog_64_method_7_code 66 = .ok (.invokevirtual 43, 3) := by decide +kernel
theorem d9_69 : decode prog_64_method_7_code 69 = .ok (.return_, 1) := by decide +kernel
theorem pd_28II29V : parseMethodDescriptor "(II)V" = some ⟨[.int, .int], none⟩ := by decide +kernel
theorem ef_9t4 (m : MethodId) (x0 : Addr) : entryFrame m #[(.ref x0), (.int (0 : Int32))] 5 = mkF m 0 #[.val (.ref x0), .val (.int (0 : Int32)), .unset, .unset, .unset] [] := by first | (simp [entryFrame, mkF, argsToLocals, Value.category]; done) | rfl
def Q9t4 (Z : State) (a0 : Addr) (bh bd bp : Addr) (x0 x1 : UInt64) (u1 : Int32) (h0 : Heap) (n0 : Nat) (v : Option Value) (h : Heap) (L : List Loc) : Prop := v = none ∧ Fr n0 L ∧ Keep h0 h [a0, bh, bd, bp] ∧ own_st Z n0 h a0 bh bd bp (0 : Int32) u1 (0 : Int32) (-1 : Int32) (1 : Int32) (0 : Int32) x0 x1
set_option maxRecDepth 65536 in
set_option maxHeartbeats 40000000 in
theorem rm9t4 (l : Launch) (Z : State) (aw : Array Value) (hw : ∀ d ∈ tables_1, d.before aw Z = true) (ws : List Jvm.Cond) (a0 : Addr) (bh bd bp : Addr) (x0 x1 : UInt64) (u1 : Int32) (h0 : Heap) (n0 : Nat) (Z0 : n0 ≤ h0.size) (St : own_st Z n0 h0 a0 bh bd bp (0 : Int32) u1 (0 : Int32) (-1 : Int32) (1 : Int32) (0 : Int32) x0 x1) :
    MetFree l msiftUp (head1 (Jvm.Cond.code msiftUp prog_64_method_7_code 5 none :: ws) rO1) (fun a U => a = #[(.ref a0), (.int (0 : Int32))] ∧ Z.Warmed39 U.vm ∧ U.heap = h0) (fun _ _ _ _ _ => True) (fun _ U o U' => ∃ v L, o = .returned v ∧ Q9t4 Z a0 bh bd bp x0 x1 u1 h0 n0 v U'.heap L ∧ FrameEnd U o U' L rO1.cells rO1.slots) := by
  refine MetFree.of_bodySF (plainFor_of_name pn_1) hisR ?_
  intro p e s m args below meth c s₁ Bd hml0 hP hK
  obtain ⟨rfl, hZ, hh⟩ := hP
  have hx := Bd.exec
  have hby := Bd.bytes
  have hml : c.maxLocals = 5 := hml0
  have hown : s.vm.findClass "com/example/wayshard/wayshard/service/VertexQueue" = some m.cls := findClass_of_methodNamed Bd.named
  have hnm := (name_of_methodNamed Bd.named Bd.method).1
  have hlk : meth.locks = false := BodyLoose.notSynchronized Bd
  have X0 : Stand p l e rO1 s m #[(.ref a0), (.int (0 : Int32))] below meth c s₁ [] 0 0 := Stand.of_body Bd
  have e0 : s₁.heap = h0 := by rw [← hh, Bd.state]; rfl
  have N0 := Fr.nil n0
  show Run p e s below (Q9t4 Z a0 bh bd bp x0 x1 u1 h0 n0) rO1.cells rO1.slots s₁ (entryFrame m #[(.ref a0), (.int (0 : Int32))] 5)
  rw [ef_9t4]
  obtain ⟨E, Fh, Fd, Fp, Fs, Ft, Ah, Ad, Ap, g0, gh, gd, gp, n0h, n0d, n0p, nhd, nhp, ndp⟩ := St
  show Run _ _ _ _ _ _ _ s₁ (mkF m 0 #[.val (.ref a0), .val (.int (0 : Int32)), .unset, .unset, .unset] [])
  refine go (T' := s₁) (f' := (mkF m 1 #[.val (.ref a0), .val (.int (0 : Int32)), .unset, .unset, .unset] [(.ref a0)])) (by intro t k; exact XS.aloadN X0.here hx rfl (hb hby d9_0) rfl rfl k) ?_
  obtain ⟨T1, X1, e1, st1⟩ := getF X0 hx hZ hown (host := "") (Or.inl (tw hw 10 rfl)) Via.refl e0 Fh (g := (mkF m 1 #[.val (.ref a0), .val (.int (0 : Int32)), .unset, .unset, .unset] [(.ref a0)])) rfl rfl (hb hby d9_1)
  refine go st1 ?_
  show Run _ _ _ _ _ _ _ T1 (mkF m 4 #[.val (.ref a0), .val (.int (0 : Int32)), .unset, .unset, .unset] [(.ref bh)])
  refine go (T' := T1) (f' := (mkF m 5 #[.val (.ref a0), .val (.int (0 : Int32)), .unset, .unset, .unset] [(.int (0 : Int32)), (.ref bh)])) (by intro t k; exact XS.iloadN X1.here hx rfl (hb hby d9_4) rfl k) ?_
  refine go (T' := T1) (f' := (mkF m 6 #[.val (.ref a0), .val (.int (0 : Int32)), .unset, .unset, .unset] [(.int (0 : Int32))])) (by intro t k; exact ldI X1 hx hZ e1 Ah (j := (0 : Int32)) (v := (.int (0 : Int32))) (by decide) rfl (g := (mkF m 5 #[.val (.ref a0), .val (.int (0 : Int32)), .unset, .unset, .unset] [(.int (0 : Int32)), (.ref bh)])) rfl rfl (hb hby d9_5) _ k) ?_
  refine go (T' := T1) (f' := (mkF m 7 #[.val (.ref a0), .val (.int (0 : Int32)), .val (.int (0 : Int32)), .unset, .unset] [])) (by intro t k; exact XS.istoreN X1.here hx rfl (hb hby d9_6) rfl (l' := #[.val (.ref a0), .val (.int (0 : Int32)), .val (.int (0 : Int32)), .unset, .unset]) rfl k) ?_
  refine go (T' := T1) (f' := (mkF m 8 #[.val (.ref a0), .val (.int (0 : Int32)), .val (.int (0 : Int32)), .unset, .unset] [(.int (0 : Int32))])) (by intro t k; exact XS.iloadN X1.here hx rfl (hb hby d9_7) rfl k) ?_
  refine go (T' := T1) (f' := (mkF m 9 #[.val (.ref a0), .val (.int (0 : Int32)), .val (.int (0 : Int32)), .val (.int (0 : Int32)), .unset] [])) (by intro t k; exact XS.istoreN X1.here hx rfl (hb hby d9_8) rfl (l' := #[.val (.ref a0), .val (.int (0 : Int32)), .val (.int (0 : Int32)), .val (.int (0 : Int32)), .unset]) rfl k) ?_
  refine go (T' := T1) (f' := (mkF m 10 #[.val (.ref a0), .val (.int (0 : Int32)), .val (.int (0 : Int32)), .val (.int (0 : Int32)), .unset] [(.int (0 : Int32))])) (by intro t k; exact XS.iloadN X1.here hx rfl (hb hby d9_9) rfl k) ?_
  refine go (T' := T1) (f' := (mkF m 63 #[.val (.ref a0), .val (.int (0 : Int32)), .val (.int (0 : Int32)), .val (.int (0 : Int32)), .unset] [])) (by intro t k; exact XS.ifYes X1.here hx rfl (pc0 := 10) (pc' := 63) rfl (hb hby d9_10) rfl ((if0 _ _).trans (flt (by decide : ¬ ((0 : Int32) < (0 : Int32)))).2.2.2) (by decide) (by decide) k) ?_
  refine go (T' := T1) (f' := (mkF m 64 #[.val (.ref a0), .val (.int (0 : Int32)), .val (.int (0 : Int32)), .val (.int (0 : Int32)), .unset] [(.ref a0)])) (by intro t k; exact XS.aloadN X1.here hx rfl (hb hby d9_63) rfl rfl k) ?_
  refine go (T' := T1) (f' := (mkF m 65 #[.val (.ref a0), .val (.int (0 : Int32)), .val (.int (0 : Int32)), .val (.int (0 : Int32)), .unset] [(.int (0 : Int32)), (.ref a0)])) (by intro t k; exact XS.iloadN X1.here hx rfl (hb hby d9_64) rfl k) ?_
  refine go (T' := T1) (f' := (mkF m 66 #[.val (.ref a0), .val (.int (0 : Int32)), .val (.int (0 : Int32)), .val (.int (0 : Int32)), .unset] [(.int (0 : Int32)), (.int (0 : Int32)), (.ref a0)])) (by intro t k; exact XS.iloadN X1.here hx rfl (hb hby d9_65) rfl k) ?_
  obtain ⟨cq2, q2, q2'⟩ := (E).cell
  obtain ⟨_, _, ⟨T2, Lz2, kz2, nz2⟩, -, X2, ⟨Lc2, hQ2, lz2, yz2, zz2⟩, st2⟩ := X1.privateBack hx (y := mmove) hown (mvT hZ (tw hw 53 rfl)) (mvT hZ (tw hw 54 rfl)) (selP (y := mmove) (mvT hZ (tw hw 1 rfl)) (Cond.privateMethod_at (mvP hZ (tw hw 55 rfl) (args := #[]))) (mvT hZ (tw hw 54 rfl)) (by decide)) (Cond.privateMethod_at (mvP hZ (tw hw 55 rfl) (args := #[]))) (mvT hZ (tw hw 56 rfl)) (by decide) (backOf (W := 0) (rm10t5 l Z aw hw [] a0 bh bd bp x0 x1 u1 h0 n0 Z0 ⟨E, Fh, Fd, Fp, Fs, Ft, Ah, Ad, Ap, g0, gh, gd, gp, n0h, n0d, n0p, nhd, nhp, ndp⟩) hZ (tw hw 56 rfl) (tw hw 2 rfl) (by decide) (by decide)) (g := (mkF m 66 #[.val (.ref a0), .val (.int (0 : Int32)), .val (.int (0 : Int32)), .val (.int (0 : Int32)), .unset] [(.int (0 : Int32)), (.int (0 : Int32)), (.ref a0)])) rfl (by rw [hml]; rfl) (Steps.refl _) (a := a0) (by rw [e1]; exact q2) q2' (argsL := [(.int (0 : Int32)), (.int (0 : Int32))]) (rest := []) (lenOf pd_28II29V rfl) rfl (by show 2 * 0 + _ ≤ _; exact Nat.le_of_eq rfl) (hb hby d9_66) (fun _ _ => ⟨rfl, e1, (by decide : 0 + 0 ≤ _), (by decide : 0 + 0 ≤ _)⟩)
  dsimp only [Pt.U, Pt.locs, Pt.cells, Pt.slots] at X2 lz2 yz2 zz2 st2 hQ2
  subst lz2 yz2 zz2
  obtain ⟨rfl, N2q, K2, hD2⟩ := hQ2
  have E2_a0 := Exa.keep E K2
  have Z2 : n0 ≤ T2.heap.size := Nat.le_trans Z0 K2.1
  have KK2 : Keep h0 T2.heap [a0, bh, bd, bp] := (Keep.refl _ _).trans K2 (allS (Or.inl (List.mem_of_getElem? (i := 0) rfl)) (allS (Or.inl (List.mem_of_getElem? (i := 1) rfl)) (allS (Or.inl (List.mem_of_getElem? (i := 2) rfl)) (allS (Or.inl (List.mem_of_getElem? (i := 3) rfl)) all0))))
  obtain ⟨E2, Fh2, Fd2, Fp2, Fs2, Ft2, Ah2, Ad2, Ap2, g02, gh2, gd2, gp2, n0h2, n0d2, n0p2, nhd2, nhp2, ndp2⟩ := hD2
  have N2 := Fr.app N0 N2q
  refine go (fun _ k => st2.trans k) ?_
  show Run _ _ _ _ _ _ _ T2 (mkF m 69 #[.val (.ref a0), .val (.int (0 : Int32)), .val (.int (0 : Int32)), .val (.int (0 : Int32)), .unset] [])
  refine retV X2 hx Bd.returns (hb hby d9_69) hlk (by decide) (by decide) ?_
  show Q9t4 Z a0 bh bd bp x0 x1 u1 h0 n0 _ T2.heap _
  exact ⟨rfl, N2, KK2, ⟨E2, Fh2, Fd2, Fp2, Fs2, Ft2, Ah2, Ad2, Ap2, g02, gh2, gd2, gp2, n0h2, n0d2, n0p2, nhd2, nhp2, ndp2⟩⟩
theorem d8_0 : decode prog_64_method_5_code 0 = .ok (.aload_n 0, 1) := by decide +kernel
theorem d8_1 : decode prog_64_method_5_code 1 = .ok (.getfield 17, 3) := by decide +kernel
theorem d8_4 : decode prog_64_method_5_code 4 = .ok (.iload_n 1, 1) := by decide +kernel
theorem d8_5 : decode prog_64_method_5_code 5 = .ok (.iaload, 1) := by decide +kernel
theorem d8_6 : decode prog_64_method_5_code 6 = .ok (.istore 4, 2) := by decide +kernel
theorem d8_8 : decode prog_64_method_5_code 8 = .ok (.aload_n 0, 1) := by decide +kernel
theorem d8_9 : decode prog_64_method_5_code 9 = .ok (.getfield 13, 3) := by decide +kernel
theorem d8_12 : decode prog_64_method_5_code 12 = .ok (.iload_n 1, 1) := by decide +kernel
theorem d8_13 : decode prog_64_method_5_code 13 = .ok (.dload_n 2, 1) := by decide +kernel
theorem d8_14 : decode prog_64_method_5_code 14 = .ok (.dastore, 1) := by decide +kernel
theorem d8_15 : decode prog_64_method_5_code 15 = .ok (.iload 4, 2) := by decide +kernel
theorem d8_17 : decode prog_64_method_5_code 17 = .ok (.iconst (-1), 1) := by decide +kernel
theorem d8_18 : decode prog_64_method_5_code 18 = .ok (.if_icmp .ne 41, 3) := by decide +kernel
theorem d8_21 : decode prog_64_method_5_code 21 = .ok (.aload_n 0, 1) := by decide +kernel
theorem d8_22 : decode prog_64_method_5_code 22 = .ok (.getfield 7, 3) := by decide +kernel
theorem d8_25 : decode prog_64_method_5_code 25 = .ok (.aload_n 0, 1) := by decide +kernel
theorem d8_26 : decode prog_64_method_5_code 26 = .ok (.getfield 26, 3) := by decide +kernel
theorem d8_29 : decode prog_64_method_5_code 29 = .ok (.iload_n 1, 1) := by decide +kernel
theorem d8_30 : decode prog_64_method_5_code 30 = .ok (.iastore, 1) := by decide +kernel
theorem d8_31 : decode prog_64_method_5_code 31 = .ok (.aload_n 0, 1) := by decide +kernel
theorem d8_32 : decode prog_64_method_5_code 32 = .ok (.getfield 17, 3) := by decide +kernel
theorem d8_35 : decode prog_64_method_5_code 35 = .ok (.iload_n 1, 1) := by decide +kernel
theorem d8_36 : decode prog_64_method_5_code 36 = .ok (.aload_n 0, 1) := by decide +kernel
theorem d8_37 : decode prog_64_method_5_code 37 = .ok (.getfield 26, 3) := by decide +kernel
theorem d8_40 : decode prog_64_method_5_code 40 = .ok (.iastore, 1) := by decide +kernel
theorem d8_41 : decode prog_64_method_5_code 41 = .ok (.aload_n 0, 1) := by decide +kernel
theorem d8_42 : decode prog_64_method_5_code 42 = .ok (.aload_n 0, 1) := by decide +kernel
theorem d8_43 : decode prog_64_method_5_code 43 = .ok (.dup, 1) := by decide +kernel
theorem d8_44 : decode prog_64_method_5_code 44 = .ok (.getfield 26, 3) := by decide +kernel
theorem d8_47 : decode prog_64_method_5_code 47 = .ok (.dup_x1, 1) := by decide +kernel
theorem d8_48 : decode prog_64_method_5_code 48 = .ok (.iconst 1, 1) := by decide +kernel
theorem d8_49 : decode prog_64_method_5_code 49 = .ok (.iadd, 1) := by decide +kernel
theorem d8_50 : decode prog_64_method_5_code 50 = .ok (.putfield 26, 3) := by decide +kernel
theorem d8_53 : decode prog_64_method_5_code 53 = .ok (.invokevirtual 33, 3) := by decide +kernel
theorem d8_56 : decode prog_64_method_5_code 56 = .ok (.goto 9, 3) := by decide +kernel
theorem d8_65 : decode prog_64_method_5_code 65 = .ok (.return_, 1) := by decide +kernel
theorem pd_28I29V : parseMethodDescriptor "(I)V" = some ⟨[.int], none⟩ := by decide +kernel
theorem ef_8t3 (m : MethodId) (x0 : Addr) (x2 : UInt64) : entryFrame m #[(.ref x0), (.int (0 : Int32)), (.double x2)] 5 = mkF m 0 #[.val (.ref x0), .val (.int (0 : Int32)), .val (.double x2), .second, .unset] [] := by first | (simp [entryFrame, mkF, argsToLocals, Value.category]; done) | rfl
def Q8t3 (Z : State) (a0 : Addr) (d2 : UInt64) (bh bd bp : Addr) (x0 x1 : UInt64) (u0 : Int32) (u1 : Int32) (h0 : Heap) (n0 : Nat) (v : Option Value) (h : Heap) (L : List Loc) : Prop := v = none ∧ Fr n0 L ∧ Keep h0 h [a0, bh, bd, bp] ∧ own_st Z n0 h a0 bh bd bp (0 : Int32) u1 (0 : Int32) (-1 : Int32) (1 : Int32) (0 : Int32) d2 x1
set_option maxRecDepth 65536 in
set_option maxHeartbeats 40000000 in
theorem rm8t3 (l : Launch) (Z : State) (aw : Array Value) (hw : ∀ d ∈ tables_1, d.before aw Z = true) (ws : List Jvm.Cond) (a0 : Addr) (d2 : UInt64) (bh bd bp : Addr) (x0 x1 : UInt64) (u0 : Int32) (u1 : Int32) (h0 : Heap) (n0 : Nat) (Z0 : n0 ≤ h0.size) (St : own_st Z n0 h0 a0 bh bd bp u0 u1 (-1 : Int32) (-1 : Int32) (0 : Int32) (0 : Int32) x0 x1) :
    MetFree l moffer (head1 (Jvm.Cond.code moffer prog_64_method_5_code 5 none :: ws) rO3) (fun a U => a = #[(.ref a0), (.int (0 : Int32)), (.double d2)] ∧ Z.Warmed39 U.vm ∧ U.heap = h0) (fun _ _ _ _ _ => True) (fun _ U o U' => ∃ v L, o = .returned v ∧ Q8t3 Z a0 d2 bh bd bp x0 x1 u0 u1 h0 n0 v U'.heap L ∧ FrameEnd U o U' L rO3.cells rO3.slots) := by
  refine MetFree.of_bodySF (plainFor_of_name pn_1) hisR ?_
  intro p e s m args below meth c s₁ Bd hml0 hP hK
  obtain ⟨rfl, hZ, hh⟩ := hP
  have hx := Bd.exec
  have hby := Bd.bytes
  have hml : c.maxLocals = 5 := hml0
  have hown : s.vm.findClass "com/example/wayshard/wayshard/service/VertexQueue" = some m.cls := findClass_of_methodNamed Bd.named
  have hnm := (name_of_methodNamed Bd.named Bd.method).1
  have hlk : meth.locks = false := BodyLoose.notSynchronized Bd
  have X0 : Stand p l e rO3 s m #[(.ref a0), (.int (0 : Int32)), (.double d2)] below meth c s₁ [] 0 0 := Stand.of_body Bd
  have e0 : s₁.heap = h0 := by rw [← hh, Bd.state]; rfl
  have N0 := Fr.nil n0
  show Run p e s below (Q8t3 Z a0 d2 bh bd bp x0 x1 u0 u1 h0 n0) rO3.cells rO3.slots s₁ (entryFrame m #[(.ref a0), (.int (0 : Int32)), (.double d2)] 5)
  rw [ef_8t3]
  obtain ⟨E, Fh, Fd, Fp, Fs, Ft, Ah, Ad, Ap, g0, gh, gd, gp, n0h, n0d, n0p, nhd, nhp, ndp⟩ := St
  show Run _ _ _ _ _ _ _ s₁ (mkF m 0 #[.val (.ref a0), .val (.int (0 : Int32)), .val (.double d2), .second, .unset] [])
  refine go (T' := s₁) (f' := (mkF m 1 #[.val (.ref a0), .val (.int (0 : Int32)), .val (.double d2), .second, .unset] [(.ref a0)])) (by intro t k; exact XS.aloadN X0.here hx rfl (hb hby d8_0) rfl rfl k) ?_
  obtain ⟨T1, X1, e1, st1⟩ := getF X0 hx hZ hown (host := "") (Or.inl (tw hw 15 rfl)) Via.refl e0 Fp (g := (mkF m 1 #[.val (.ref a0), .val (.int (0 : Int32)), .val (.double d2), .second, .unset] [(.ref a0)])) rfl rfl (hb hby d8_1)
  refine go st1 ?_
  show Run _ _ _ _ _ _ _ T1 (mkF m 4 #[.val (.ref a0), .val (.int (0 : Int32)), .val (.double d2), .second, .unset] [(.ref bp)])
  refine go (T' := T1) (f' := (mkF m 5 #[.val (.ref a0), .val (.int (0 : Int32)), .val (.double d2), .second, .unset] [(.int (0 : Int32)), (.ref bp)])) (by intro t k; exact XS.iloadN X1.here hx rfl (hb hby d8_4) rfl k) ?_
  refine go (T' := T1) (f' := (mkF m 6 #[.val (.ref a0), .val (.int (0 : Int32)), .val (.double d2), .second, .unset] [(.int (-1 : Int32))])) (by intro t k; exact ldI X1 hx hZ e1 Ap (j := (0 : Int32)) (v := (.int (-1 : Int32))) (by decide) rfl (g := (mkF m 5 #[.val (.ref a0), .val (.int (0 : Int32)), .val (.double d2), .second, .unset] [(.int (0 : Int32)), (.ref bp)])) rfl rfl (hb hby d8_5) _ k) ?_
  refine go (T' := T1) (f' := (mkF m 8 #[.val (.ref a0), .val (.int (0 : Int32)), .val (.double d2), .second, .val (.int (-1 : Int32))] [])) (by intro t k; exact XS.istore X1.here hx rfl (hb hby d8_6) rfl (l' := #[.val (.ref a0), .val (.int (0 : Int32)), .val (.double d2), .second, .val (.int (-1 : Int32))]) rfl k) ?_
  refine go (T' := T1) (f' := (mkF m 9 #[.val (.ref a0), .val (.int (0 : Int32)), .val (.double d2), .second, .val (.int (-1 : Int32))] [(.ref a0)])) (by intro t k; exact XS.aloadN X1.here hx rfl (hb hby d8_8) rfl rfl k) ?_
  obtain ⟨T2, X2, e2, st2⟩ := getF X1 hx hZ hown (host := "") (Or.inl (tw hw 13 rfl)) Via.refl e1 Fd (g := (mkF m 9 #[.val (.ref a0), .val (.int (0 : Int32)), .val (.double d2), .second, .val (.int (-1 : Int32))] [(.ref a0)])) rfl rfl (hb hby d8_9)
  refine go st2 ?_
  show Run _ _ _ _ _ _ _ T2 (mkF m 12 #[.val (.ref a0), .val (.int (0 : Int32)), .val (.double d2), .second, .val (.int (-1 : Int32))] [(.ref bd)])
  refine go (T' := T2) (f' := (mkF m 13 #[.val (.ref a0), .val (.int (0 : Int32)), .val (.double d2), .second, .val (.int (-1 : Int32))] [(.int (0 : Int32)), (.ref bd)])) (by intro t k; exact XS.iloadN X2.here hx rfl (hb hby d8_12) rfl k) ?_
  refine go (T' := T2) (f' := (mkF m 14 #[.val (.ref a0), .val (.int (0 : Int32)), .val (.double d2), .second, .val (.int (-1 : Int32))] [(.double d2), (.int (0 : Int32)), (.ref bd)])) (by intro t k; exact XS.dloadN X2.here hx rfl (hb hby d8_13) rfl k) ?_
  obtain ⟨cl3, Ar3, hin3⟩ := Ary.st (j := (0 : Int32)) Ad (by decide) (by show (0 : Int32).toNatClampNeg < 2; decide)
  obtain ⟨T3, h3, X3, e3, W3, st3⟩ := stD X2 hx hZ e2 Ar3 (j := (0 : Int32)) hin3 (g := (mkF m 14 #[.val (.ref a0), .val (.int (0 : Int32)), .val (.double d2), .second, .val (.int (-1 : Int32))] [(.double d2), (.int (0 : Int32)), (.ref bd)])) rfl rfl (hb hby d8_14)
  have K3 : Keep h0 h3 [bd] := Keep.of_wr W3
  have V3 : Ary Z h3 bd .double [(.double d2), (.double x1)] := Ary.set Ad W3 rfl
  have N3 := Fr.snoc X3 N0 gd
  have E3_a0 := Exa.keep E K3
  have F3_a0_heap := Fld.keep Fh K3 (ninS n0d nin0)
  have F3_a0_priorities := Fld.keep Fd K3 (ninS n0d nin0)
  have F3_a0_places := Fld.keep Fp K3 (ninS n0d nin0)
  have F3_a0_size := Fld.keep Fs K3 (ninS n0d nin0)
  have F3_a0_taken := Fld.keep Ft K3 (ninS n0d nin0)
  have A3_bh := Ary.keep Ah K3 (ninS nhd nin0)
  have A3_bp := Ary.keep Ap K3 (ninS (Ne.symm ndp) nin0)
  have Z3 : n0 ≤ h3.size := Nat.le_trans Z0 K3.1
  have KK3 : Keep h0 h3 [a0, bh, bd, bp] := (Keep.refl _ _).trans K3 (allS (Or.inl (List.mem_of_getElem? (i := 2) rfl)) all0)
  refine go st3 ?_
  show Run _ _ _ _ _ _ _ T3 (mkF m 15 #[.val (.ref a0), .val (.int (0 : Int32)), .val (.double d2), .second, .val (.int (-1 : Int32))] [])
  refine go (T' := T3) (f' := (mkF m 17 #[.val (.ref a0), .val (.int (0 : Int32)), .val (.double d2), .second, .val (.int (-1 : Int32))] [(.int (-1 : Int32))])) (by intro t k; exact XS.iload X3.here hx rfl (hb hby d8_15) rfl k) ?_
  refine go (T' := T3) (f' := (mkF m 18 #[.val (.ref a0), .val (.int (0 : Int32)), .val (.double d2), .second, .val (.int (-1 : Int32))] [(.int (-1 : Int32)), (.int (-1 : Int32))])) (by intro t k; exact XS.iconst X3.here hx rfl (hb hby d8_17) k) ?_
  refine go (T' := T3) (f' := (mkF m 21 #[.val (.ref a0), .val (.int (0 : Int32)), .val (.double d2), .second, .val (.int (-1 : Int32))] [])) (by intro t k; exact XS.icmpNo X3.here hx rfl (hb hby d8_18) rfl (teq (rfl : (-1 : Int32) = (-1 : Int32))).2 k) ?_
  refine go (T' := T3) (f' := (mkF m 22 #[.val (.ref a0), .val (.int (0 : Int32)), .val (.double d2), .second, .val (.int (-1 : Int32))] [(.ref a0)])) (by intro t k; exact XS.aloadN X3.here hx rfl (hb hby d8_21) rfl rfl k) ?_
  obtain ⟨T4, X4, e4, st4⟩ := getF X3 hx hZ hown (host := "") (Or.inl (tw hw 10 rfl)) Via.refl e3 F3_a0_heap (g := (mkF m 22 #[.val (.ref a0), .val (.int (0 : Int32)), .val (.double d2), .second, .val (.int (-1 : Int32))] [(.ref a0)])) rfl rfl (hb hby d8_22)
  refine go st4 ?_
  show Run _ _ _ _ _ _ _ T4 (mkF m 25 #[.val (.ref a0), .val (.int (0 : Int32)), .val (.double d2), .second, .val (.int (-1 : Int32))] [(.ref bh)])
  refine go (T' := T4) (f' := (mkF m 26 #[.val (.ref a0), .val (.int (0 : Int32)), .val (.double d2), .second, .val (.int (-1 : Int32))] [(.ref a0), (.ref bh)])) (by intro t k; exact XS.aloadN X4.here hx rfl (hb hby d8_25) rfl rfl k) ?_
  obtain ⟨T5, X5, e5, st5⟩ := getF X4 hx hZ hown (host := "") (Or.inl (tw hw 30 rfl)) Via.refl e4 F3_a0_size (g := (mkF m 26 #[.val (.ref a0), .val (.int (0 : Int32)), .val (.double d2), .second, .val (.int (-1 : Int32))] [(.ref a0), (.ref bh)])) rfl rfl (hb hby d8_26)
  refine go st5 ?_
  show Run _ _ _ _ _ _ _ T5 (mkF m 29 #[.val (.ref a0), .val (.int (0 : Int32)), .val (.double d2), .second, .val (.int (-1 : Int32))] [(.int (0 : Int32)), (.ref bh)])
  refine go (T' := T5) (f' := (mkF m 30 #[.val (.ref a0), .val (.int (0 : Int32)), .val (.double d2), .second, .val (.int (-1 : Int32))] [(.int (0 : Int32)), (.int (0 : Int32)), (.ref bh)])) (by intro t k; exact XS.iloadN X5.here hx rfl (hb hby d8_29) rfl k) ?_
  obtain ⟨cl6, Ar6, hin6⟩ := Ary.st (j := (0 : Int32)) A3_bh (by decide) (by show (0 : Int32).toNatClampNeg < 2; decide)
  obtain ⟨T6, h6, X6, e6, W6, st6⟩ := stI X5 hx hZ e5 Ar6 (j := (0 : Int32)) hin6 (g := (mkF m 30 #[.val (.ref a0), .val (.int (0 : Int32)), .val (.double d2), .second, .val (.int (-1 : Int32))] [(.int (0 : Int32)), (.int (0 : Int32)), (.ref bh)])) rfl rfl (hb hby d8_30)
  have K6 : Keep h3 h6 [bh] := Keep.of_wr W6
  have V6 : Ary Z h6 bh .int [(.int (0 : Int32)), (.int u1)] := Ary.set A3_bh W6 rfl
  have N6 := Fr.snoc X6 N3 gh
  have E6_a0 := Exa.keep E3_a0 K6
  have F6_a0_heap := Fld.keep F3_a0_heap K6 (ninS n0h nin0)
  have F6_a0_priorities := Fld.keep F3_a0_priorities K6 (ninS n0h nin0)
  have F6_a0_places := Fld.keep F3_a0_places K6 (ninS n0h nin0)
  have F6_a0_size := Fld.keep F3_a0_size K6 (ninS n0h nin0)
  have F6_a0_taken := Fld.keep F3_a0_taken K6 (ninS n0h nin0)
  have A6_bd := Ary.keep V3 K6 (ninS (Ne.symm nhd) nin0)
  have A6_bp := Ary.keep A3_bp K6 (ninS (Ne.symm nhp) nin0)
  have Z6 : n0 ≤ h6.size := Nat.le_trans Z3 K6.1
  have KK6 : Keep h0 h6 [a0, bh, bd, bp] := KK3.trans K6 (allS (Or.inl (List.mem_of_getElem? (i := 1) rfl)) all0)
  refine go st6 ?_
  show Run _ _ _ _ _ _ _ T6 (mkF m 31 #[.val (.ref a0), .val (.int (0 : Int32)), .val (.double d2), .second, .val (.int (-1 : Int32))] [])
  refine go (T' := T6) (f' := (mkF m 32 #[.val (.ref a0), .val (.int (0 : Int32)), .val (.double d2), .second, .val (.int (-1 : Int32))] [(.ref a0)])) (by intro t k; exact XS.aloadN X6.here hx rfl (hb hby d8_31) rfl rfl k) ?_
  obtain ⟨T7, X7, e7, st7⟩ := getF X6 hx hZ hown (host := "") (Or.inl (tw hw 15 rfl)) Via.refl e6 F6_a0_places (g := (mkF m 32 #[.val (.ref a0), .val (.int (0 : Int32)), .val (.double d2), .second, .val (.int (-1 : Int32))] [(.ref a0)])) rfl rfl (hb hby d8_32)
  refine go st7 ?_
  show Run _ _ _ _ _ _ _ T7 (mkF m 35 #[.val (.ref a0), .val (.int (0 : Int32)), .val (.double d2), .second, .val (.int (-1 : Int32))] [(.ref bp)])
  refine go (T' := T7) (f' := (mkF m 36 #[.val (.ref a0), .val (.int (0 : Int32)), .val (.double d2), .second, .val (.int (-1 : Int32))] [(.int (0 : Int32)), (.ref bp)])) (by intro t k; exact XS.iloadN X7.here hx rfl (hb hby d8_35) rfl k) ?_
  refine go (T' := T7) (f' := (mkF m 37 #[.val (.ref a0), .val (.int (0 : Int32)), .val (.double d2), .second, .val (.int (-1 : Int32))] [(.ref a0), (.int (0 : Int32)), (.ref bp)])) (by intro t k; exact XS.aloadN X7.here hx rfl (hb hby d8_36) rfl rfl k) ?_
  obtain ⟨T8, X8, e8, st8⟩ := getF X7 hx hZ hown (host := "") (Or.inl (tw hw 30 rfl)) Via.refl e7 F6_a0_size (g := (mkF m 37 #[.val (.ref a0), .val (.int (0 : Int32)), .val (.double d2), .second, .val (.int (-1 : Int32))] [(.ref a0), (.int (0 : Int32)), (.ref bp)])) rfl rfl (hb hby d8_37)
  refine go st8 ?_
  show Run _ _ _ _ _ _ _ T8 (mkF m 40 #[.val (.ref a0), .val (.int (0 : Int32)), .val (.double d2), .second, .val (.int (-1 : Int32))] [(.int (0 : Int32)), (.int (0 : Int32)), (.ref bp)])
  obtain ⟨cl9, Ar9, hin9⟩ := Ary.st (j := (0 : Int32)) A6_bp (by decide) (by show (0 : Int32).toNatClampNeg < 2; decide)
  obtain ⟨T9, h9, X9, e9, W9, st9⟩ := stI X8 hx hZ e8 Ar9 (j := (0 : Int32)) hin9 (g := (mkF m 40 #[.val (.ref a0), .val (.int (0 : Int32)), .val (.double d2), .second, .val (.int (-1 : Int32))] [(.int (0 : Int32)), (.int (0 : Int32)), (.ref bp)])) rfl rfl (hb hby d8_40)
  have K9 : Keep h6 h9 [bp] := Keep.of_wr W9
  have V9 : Ary Z h9 bp .int [(.int (0 : Int32)), (.int (-1 : Int32))] := Ary.set A6_bp W9 rfl
  have N9 := Fr.snoc X9 N6 gp
  have E9_a0 := Exa.keep E6_a0 K9
  have F9_a0_heap := Fld.keep F6_a0_heap K9 (ninS n0p nin0)
  have F9_a0_priorities := Fld.keep F6_a0_priorities K9 (ninS n0p nin0)
  have F9_a0_places := Fld.keep F6_a0_places K9 (ninS n0p nin0)
  have F9_a0_size := Fld.keep F6_a0_size K9 (ninS n0p nin0)
  have F9_a0_taken := Fld.keep F6_a0_taken K9 (ninS n0p nin0)
  have A9_bh := Ary.keep V6 K9 (ninS nhp nin0)
  have A9_bd := Ary.keep A6_bd K9 (ninS ndp nin0)
  have Z9 : n0 ≤ h9.size := Nat.le_trans Z6 K9.1
  have KK9 : Keep h0 h9 [a0, bh, bd, bp] := KK6.trans K9 (allS (Or.inl (List.mem_of_getElem? (i := 3) rfl)) all0)
  refine go st9 ?_
  show Run _ _ _ _ _ _ _ T9 (mkF m 41 #[.val (.ref a0), .val (.int (0 : Int32)), .val (.double d2), .second, .val (.int (-1 : Int32))] [])
  refine go (T' := T9) (f' := (mkF m 42 #[.val (.ref a0), .val (.int (0 : Int32)), .val (.double d2), .second, .val (.int (-1 : Int32))] [(.ref a0)])) (by intro t k; exact XS.aloadN X9.here hx rfl (hb hby d8_41) rfl rfl k) ?_
  refine go (T' := T9) (f' := (mkF m 43 #[.val (.ref a0), .val (.int (0 : Int32)), .val (.double d2), .second, .val (.int (-1 : Int32))] [(.ref a0), (.ref a0)])) (by intro t k; exact XS.aloadN X9.here hx rfl (hb hby d8_42) rfl rfl k) ?_
  refine go (T' := T9) (f' := (mkF m 44 #[.val (.ref a0), .val (.int (0 : Int32)), .val (.double d2), .second, .val (.int (-1 : Int32))] [(.ref a0), (.ref a0), (.ref a0)])) (by intro t k; exact XS.dup X9.here hx rfl (hb hby d8_43) rfl rfl k) ?_
  obtain ⟨T10, X10, e10, st10⟩ := getF X9 hx hZ hown (host := "") (Or.inl (tw hw 30 rfl)) Via.refl e9 F9_a0_size (g := (mkF m 44 #[.val (.ref a0), .val (.int (0 : Int32)), .val (.double d2), .second, .val (.int (-1 : Int32))] [(.ref a0), (.ref a0), (.ref a0)])) rfl rfl (hb hby d8_44)
  refine go st10 ?_
  show Run _ _ _ _ _ _ _ T10 (mkF m 47 #[.val (.ref a0), .val (.int (0 : Int32)), .val (.double d2), .second, .val (.int (-1 : Int32))] [(.int (0 : Int32)), (.ref a0), (.ref a0)])
  refine go (T' := T10) (f' := (mkF m 48 #[.val (.ref a0), .val (.int (0 : Int32)), .val (.double d2), .second, .val (.int (-1 : Int32))] [(.int (0 : Int32)), (.ref a0), (.int (0 : Int32)), (.ref a0)])) (by intro t k; exact XS.dupX1 X10.here hx rfl (hb hby d8_47) rfl rfl rfl k) ?_
  refine go (T' := T10) (f' := (mkF m 49 #[.val (.ref a0), .val (.int (0 : Int32)), .val (.double d2), .second, .val (.int (-1 : Int32))] [(.int (1 : Int32)), (.int (0 : Int32)), (.ref a0), (.int (0 : Int32)), (.ref a0)])) (by intro t k; exact XS.iconst X10.here hx rfl (hb hby d8_48) k) ?_
  refine go (T' := T10) (f' := (mkF m 50 #[.val (.ref a0), .val (.int (0 : Int32)), .val (.double d2), .second, .val (.int (-1 : Int32))] [(.int (1 : Int32)), (.ref a0), (.int (0 : Int32)), (.ref a0)])) (by intro t k; exact XS.iadd X10.here hx rfl (hb hby d8_49) rfl k) ?_
  obtain ⟨T11, h11, X11, e11, W11, st11⟩ := putF X10 hx hZ hown (host := "") (Or.inl (tw hw 30 rfl)) Via.refl e10 F9_a0_size E9_a0 (Or.inl (tw hw 31 rfl)) (tw hw 1 rfl) (ty := .int) (by decide) rfl rfl (g := (mkF m 50 #[.val (.ref a0), .val (.int (0 : Int32)), .val (.double d2), .second, .val (.int (-1 : Int32))] [(.int (1 : Int32)), (.ref a0), (.int (0 : Int32)), (.ref a0)])) rfl rfl (hb hby d8_50)
  have K11 : Keep h9 h11 [a0] := Keep.of_wr W11
  have F11_a0_heap := Fld.other W11 F9_a0_heap (Or.inr (slot_ne (Or.inr (tw hw 11 rfl)) (Or.inl (tw hw 31 rfl)) (by decide) (t := (.array .int)) (t' := .int) (by decide) (by decide)))
  have F11_a0_priorities := Fld.other W11 F9_a0_priorities (Or.inr (slot_ne (Or.inr (tw hw 14 rfl)) (Or.inl (tw hw 31 rfl)) (by decide) (t := (.array .double)) (t' := .int) (by decide) (by decide)))
  have F11_a0_places := Fld.other W11 F9_a0_places (Or.inr (slot_ne (Or.inr (tw hw 16 rfl)) (Or.inl (tw hw 31 rfl)) (by decide) (t := (.array .int)) (t' := .int) (by decide) (by decide)))
  have F11_a0_size : Fld Z h11 a0 "com/example/wayshard/wayshard/service/VertexQueue" "size" "I" (.int (1 : Int32)) := F9_a0_size.same W11
  have F11_a0_taken := Fld.other W11 F9_a0_taken (Or.inr (slot_ne (Or.inl (tw hw 33 rfl)) (Or.inl (tw hw 31 rfl)) (by decide) (t := .int) (t' := .int) (by decide) (by decide)))
  have N11 := Fr.snoc X11 N9 g0
  have E11_a0 := Exa.keep E9_a0 K11
  have A11_bh := Ary.keep A9_bh K11 (ninS (Ne.symm n0h) nin0)
  have A11_bd := Ary.keep A9_bd K11 (ninS (Ne.symm n0d) nin0)
  have A11_bp := Ary.keep V9 K11 (ninS (Ne.symm n0p) nin0)
  have Z11 : n0 ≤ h11.size := Nat.le_trans Z9 K11.1
  have KK11 : Keep h0 h11 [a0, bh, bd, bp] := KK9.trans K11 (allS (Or.inl (List.mem_of_getElem? (i := 0) rfl)) all0)
  refine go st11 ?_
  show Run _ _ _ _ _ _ _ T11 (mkF m 53 #[.val (.ref a0), .val (.int (0 : Int32)), .val (.double d2), .second, .val (.int (-1 : Int32))] [(.int (0 : Int32)), (.ref a0)])
  obtain ⟨cq12, q12, q12'⟩ := (E11_a0).cell
  obtain ⟨_, _, ⟨T12, Lz12, kz12, nz12⟩, -, X12, ⟨Lc12, hQ12, lz12, yz12, zz12⟩, st12⟩ := X11.privateBack hx (y := msiftUp) hown (mvT hZ (tw hw 49 rfl)) (mvT hZ (tw hw 50 rfl)) (selP (y := msiftUp) (mvT hZ (tw hw 1 rfl)) (Cond.privateMethod_at (mvP hZ (tw hw 51 rfl) (args := #[]))) (mvT hZ (tw hw 50 rfl)) (by decide)) (Cond.privateMethod_at (mvP hZ (tw hw 51 rfl) (args := #[]))) (mvT hZ (tw hw 52 rfl)) (by decide) (backOf (W := 0) (rm9t4 l Z aw hw [] a0 bh bd bp d2 x1 u1 h11 n0 Z11 ⟨E11_a0, F11_a0_heap, F11_a0_priorities, F11_a0_places, F11_a0_size, F11_a0_taken, A11_bh, A11_bd, A11_bp, g0, gh, gd, gp, n0h, n0d, n0p, nhd, nhp, ndp⟩) hZ (tw hw 52 rfl) (tw hw 2 rfl) (by decide) (by decide)) (g := (mkF m 53 #[.val (.ref a0), .val (.int (0 : Int32)), .val (.double d2), .second, .val (.int (-1 : Int32))] [(.int (0 : Int32)), (.ref a0)])) rfl (by rw [hml]; rfl) (Steps.refl _) (a := a0) (by rw [e11]; exact q12) q12' (argsL := [(.int (0 : Int32))]) (rest := []) (lenOf pd_28I29V rfl) rfl (by show 2 * 0 + _ ≤ _; exact Nat.le_of_eq rfl) (hb hby d8_53) (fun _ _ => ⟨rfl, e11, (by decide : 0 + 0 ≤ _), (by decide : 0 + 0 ≤ _)⟩)
  dsimp only [Pt.U, Pt.locs, Pt.cells, Pt.slots] at X12 lz12 yz12 zz12 st12 hQ12
  subst lz12 yz12 zz12
  obtain ⟨rfl, N12q, K12, hD12⟩ := hQ12
  have E12_a0 := Exa.keep E11_a0 K12
  have Z12 : n0 ≤ T12.heap.size := Nat.le_trans Z11 K12.1
  have KK12 : Keep h0 T12.heap [a0, bh, bd, bp] := KK11.trans K12 (allS (Or.inl (List.mem_of_getElem? (i := 0) rfl)) (allS (Or.inl (List.mem_of_getElem? (i := 1) rfl)) (allS (Or.inl (List.mem_of_getElem? (i := 2) rfl)) (allS (Or.inl (List.mem_of_getElem? (i := 3) rfl)) all0))))
  obtain ⟨E12, Fh12, Fd12, Fp12, Fs12, Ft12, Ah12, Ad12, Ap12, g012, gh12, gd12, gp12, n0h12, n0d12, n0p12, nhd12, nhp12, ndp12⟩ := hD12
  have N12 := Fr.app N11 N12q
  refine go (fun _ k => st12.trans k) ?_
  show Run _ _ _ _ _ _ _ T12 (mkF m 56 #[.val (.ref a0), .val (.int (0 : Int32)), .val (.double d2), .second, .val (.int (-1 : Int32))] [])
  refine go (T' := T12) (f' := (mkF m 65 #[.val (.ref a0), .val (.int (0 : Int32)), .val (.double d2), .second, .val (.int (-1 : Int32))] [])) (by intro t k; exact XS.goto X12.here hx rfl (pc0 := 56) (pc' := 65) rfl (hb hby d8_56) (by decide) (by decide) k) ?_
  refine retV X12 hx Bd.returns (hb hby d8_65) hlk (by decide) (by decide) ?_
  show Q8t3 Z a0 d2 bh bd bp x0 x1 u0 u1 h0 n0 _ T12.heap _
  exact ⟨rfl, N12, KK12, ⟨E12, Fh12, Fd12, Fp12, Fs12, Ft12, Ah12, Ad12, Ap12, g012, gh12, gd12, gp12, n0h12, n0d12, n0p12, nhd12, nhp12, ndp12⟩⟩
theorem d6_11 : decode prog_64_method_2_code 11 = .ok (.iconst 0, 1) := by decide +kernel
theorem ef_6t6 (m : MethodId) (x0 : Addr) : entryFrame m #[(.ref x0)] 1 = mkF m 0 #[.val (.ref x0)] [] := by first | (simp [entryFrame, mkF, argsToLocals, Value.category]; done) | rfl
def Q6t6 (Z : State) (a0 : Addr) (bh bd bp : Addr) (x0 x1 : UInt64) (u1 : Int32) (h0 : Heap) (n0 : Nat) (v : Option Value) (h : Heap) (L : List Loc) : Prop := v = some (.int (0 : Int32)) ∧ Fr n0 L ∧ Keep h0 h [a0, bh, bd, bp] ∧ own_st Z n0 h a0 bh bd bp (0 : Int32) u1 (0 : Int32) (-1 : Int32) (1 : Int32) (0 : Int32) x0 x1
set_option maxRecDepth 65536 in
set_option maxHeartbeats 40000000 in
theorem rm6t6 (l : Launch) (Z : State) (aw : Array Value) (hw : ∀ d ∈ tables_1, d.before aw Z = true) (ws : List Jvm.Cond) (a0 : Addr) (bh bd bp : Addr) (x0 x1 : UInt64) (u1 : Int32) (h0 : Heap) (n0 : Nat) (Z0 : n0 ≤ h0.size) (St : own_st Z n0 h0 a0 bh bd bp (0 : Int32) u1 (0 : Int32) (-1 : Int32) (1 : Int32) (0 : Int32) x0 x1) :
    MetFree l misEmpty (head1 (Jvm.Cond.code misEmpty prog_64_method_2_code 1 (some .boolean) :: ws) rO0) (fun a U => a = #[(.ref a0)] ∧ Z.Warmed39 U.vm ∧ U.heap = h0) (fun _ _ _ _ _ => True) (fun _ U o U' => ∃ v L, o = .returned v ∧ Q6t6 Z a0 bh bd bp x0 x1 u1 h0 n0 v U'.heap L ∧ FrameEnd U o U' L rO0.cells rO0.slots) := by
  refine MetFree.of_bodySF (plainFor_of_name pn_1) hisR ?_
  intro p e s m args below meth c s₁ Bd hml0 hP hK
  obtain ⟨rfl, hZ, hh⟩ := hP
  have hx := Bd.exec
  have hby := Bd.bytes
  have hml : c.maxLocals = 1 := hml0
  have hown : s.vm.findClass "com/example/wayshard/wayshard/service/VertexQueue" = some m.cls := findClass_of_methodNamed Bd.named
  have hnm := (name_of_methodNamed Bd.named Bd.method).1
  have hlk : meth.locks = false := BodyLoose.notSynchronized Bd
  have X0 : Stand p l e rO0 s m #[(.ref a0)] below meth c s₁ [] 0 0 := Stand.of_body Bd
  have e0 : s₁.heap = h0 := by rw [← hh, Bd.state]; rfl
  have N0 := Fr.nil n0
  show Run p e s below (Q6t6 Z a0 bh bd bp x0 x1 u1 h0 n0) rO0.cells rO0.slots s₁ (entryFrame m #[(.ref a0)] 1)
  rw [ef_6t6]
  obtain ⟨E, Fh, Fd, Fp, Fs, Ft, Ah, Ad, Ap, g0, gh, gd, gp, n0h, n0d, n0p, nhd, nhp, ndp⟩ := St
  show Run _ _ _ _ _ _ _ s₁ (mkF m 0 #[.val (.ref a0)] [])
  refine go (T' := s₁) (f' := (mkF m 1 #[.val (.ref a0)] [(.ref a0)])) (by intro t k; exact XS.aloadN X0.here hx rfl (hb hby d6_0) rfl rfl k) ?_
  obtain ⟨T1, X1, e1, st1⟩ := getF X0 hx hZ hown (host := "") (Or.inl (tw hw 30 rfl)) Via.refl e0 Fs (g := (mkF m 1 #[.val (.ref a0)] [(.ref a0)])) rfl rfl (hb hby d6_1)
  refine go st1 ?_
  show Run _ _ _ _ _ _ _ T1 (mkF m 4 #[.val (.ref a0)] [(.int (1 : Int32))])
  refine go (T' := T1) (f' := (mkF m 11 #[.val (.ref a0)] [])) (by intro t k; exact XS.ifYes X1.here hx rfl (pc0 := 4) (pc' := 11) rfl (hb hby d6_4) rfl ((if0 _ _).trans (feq (by decide : ¬ ((1 : Int32) = (0 : Int32)))).2) (by decide) (by decide) k) ?_
  refine go (T' := T1) (f' := (mkF m 12 #[.val (.ref a0)] [(.int (0 : Int32))])) (by intro t k; exact XS.iconst X1.here hx rfl (hb hby d6_11) k) ?_
  refine retZ X1 hx (t := .boolean) Bd.returns (by simp) (hb hby d6_12) hlk (by decide) (by decide) ?_
  show Q6t6 Z a0 bh bd bp x0 x1 u1 h0 n0 _ T1.heap _
  rw [e1]
  have hv' : (nar .boolean (0 : Int32)) = (0 : Int32) := by
    rfl
  have hv : (some (.int (nar .boolean (0 : Int32))) : Option Value) = some (.int (0 : Int32)) := congrArg (fun z => (some (.int z) : Option Value)) hv'
  exact ⟨hv, N0, (Keep.refl _ _), ⟨E, Fh, Fd, Fp, Fs, Ft, Ah, Ad, Ap, g0, gh, gd, gp, n0h, n0d, n0p, nhd, nhp, ndp⟩⟩
theorem d11_0 : decode prog_64_method_6_code 0 = .ok (.aload_n 0, 1) := by decide +kernel
theorem d11_1 : decode prog_64_method_6_code 1 = .ok (.getfield 26, 3) := by decide +kernel
theorem d11_4 : decode prog_64_method_6_code 4 = .ok (.ifCond .ne 11, 3) := by decide +kernel
theorem d11_15 : decode prog_64_method_6_code 15 = .ok (.aload_n 0, 1) := by decide +kernel
theorem d11_16 : decode prog_64_method_6_code 16 = .ok (.getfield 7, 3) := by decide +kernel
theorem d11_19 : decode prog_64_method_6_code 19 = .ok (.iconst 0, 1) := by decide +kernel
theorem d11_20 : decode prog_64_method_6_code 20 = .ok (.iaload, 1) := by decide +kernel
theorem d11_21 : decode prog_64_method_6_code 21 = .ok (.istore_n 1, 1) := by decide +kernel
theorem d11_22 : decode prog_64_method_6_code 22 = .ok (.aload_n 0, 1) := by decide +kernel
theorem d11_23 : decode prog_64_method_6_code 23 = .ok (.dup, 1) := by decide +kernel
theorem d11_24 : decode prog_64_method_6_code 24 = .ok (.getfield 26, 3) := by decide +kernel
theorem d11_27 : decode prog_64_method_6_code 27 = .ok (.iconst 1, 1) := by decide +kernel
theorem d11_28 : decode prog_64_method_6_code 28 = .ok (.isub, 1) := by decide +kernel
theorem d11_29 : decode prog_64_method_6_code 29 = .ok (.putfield 26, 3) := by decide +kernel
theorem d11_32 : decode prog_64_method_6_code 32 = .ok (.aload_n 0, 1) := by decide +kernel
theorem d11_33 : decode prog_64_method_6_code 33 = .ok (.getfield 26, 3) := by decide +kernel
theorem d11_36 : decode prog_64_method_6_code 36 = .ok (.ifCond .le 35, 3) := by decide +kernel
theorem d11_71 : decode prog_64_method_6_code 71 = .ok (.aload_n 0, 1) := by decide +kernel
theorem d11_72 : decode prog_64_method_6_code 72 = .ok (.dup, 1) := by decide +kernel
theorem d11_73 : decode prog_64_method_6_code 73 = .ok (.getfield 30, 3) := by decide +kernel
theorem d11_76 : decode prog_64_method_6_code 76 = .ok (.iconst 1, 1) := by decide +kernel
theorem d11_77 : decode prog_64_method_6_code 77 = .ok (.iadd, 1) := by decide +kernel
theorem d11_78 : decode prog_64_method_6_code 78 = .ok (.putfield 30, 3) := by decide +kernel
theorem d11_81 : decode prog_64_method_6_code 81 = .ok (.aload_n 0, 1) := by decide +kernel
theorem d11_82 : decode prog_64_method_6_code 82 = .ok (.getfield 7, 3) := by decide +kernel
theorem d11_85 : decode prog_64_method_6_code 85 = .ok (.aload_n 0, 1) := by decide +kernel
theorem d11_86 : decode prog_64_method_6_code 86 = .ok (.getfield 7, 3) := by decide +kernel
theorem d11_89 : decode prog_64_method_6_code 89 = .ok (.arraylength, 1) := by decide +kernel
theorem d11_90 : decode prog_64_method_6_code 90 = .ok (.aload_n 0, 1) := by decide +kernel
theorem d11_91 : decode prog_64_method_6_code 91 = .ok (.getfield 30, 3) := by decide +kernel
theorem d11_94 : decode prog_64_method_6_code 94 = .ok (.isub, 1) := by decide +kernel
theorem d11_95 : decode prog_64_method_6_code 95 = .ok (.iload_n 1, 1) := by decide +kernel
theorem d11_96 : decode prog_64_method_6_code 96 = .ok (.iastore, 1) := by decide +kernel
theorem d11_97 : decode prog_64_method_6_code 97 = .ok (.aload_n 0, 1) := by decide +kernel
theorem d11_98 : decode prog_64_method_6_code 98 = .ok (.getfield 17, 3) := by decide +kernel
theorem d11_101 : decode prog_64_method_6_code 101 = .ok (.iload_n 1, 1) := by decide +kernel
theorem d11_102 : decode prog_64_method_6_code 102 = .ok (.bipush (-2), 2) := by decide +kernel
theorem d11_104 : decode prog_64_method_6_code 104 = .ok (.iastore, 1) := by decide +kernel
theorem d11_105 : decode prog_64_method_6_code 105 = .ok (.iload_n 1, 1) := by decide +kernel
theorem d11_106 : decode prog_64_method_6_code 106 = .ok (.ireturn, 1) := by decide +kernel
theorem ef_11t7 (m : MethodId) (x0 : Addr) : entryFrame m #[(.ref x0)] 2 = mkF m 0 #[.val (.ref x0), .unset] [] := by first | (simp [entryFrame, mkF, argsToLocals, Value.category]; done) | rfl
def Q11t7 (Z : State) (a0 : Addr) (bh bd bp : Addr) (x0 x1 : UInt64) (u1 : Int32) (h0 : Heap) (n0 : Nat) (v : Option Value) (h : Heap) (L : List Loc) : Prop := v = some (.int (0 : Int32)) ∧ Fr n0 L ∧ Keep h0 h [a0, bh, bd, bp] ∧ own_st Z n0 h a0 bh bd bp (0 : Int32) (0 : Int32) (-2 : Int32) (-1 : Int32) (0 : Int32) (1 : Int32) x0 x1
set_option maxRecDepth 65536 in
set_option maxHeartbeats 40000000 in
theorem rm11t7 (l : Launch) (Z : State) (aw : Array Value) (hw : ∀ d ∈ tables_1, d.before aw Z = true) (ws : List Jvm.Cond) (a0 : Addr) (bh bd bp : Addr) (x0 x1 : UInt64) (u1 : Int32) (h0 : Heap) (n0 : Nat) (Z0 : n0 ≤ h0.size) (St : own_st Z n0 h0 a0 bh bd bp (0 : Int32) u1 (0 : Int32) (-1 : Int32) (1 : Int32) (0 : Int32) x0 x1) :
    MetFree l mpoll (head1 (Jvm.Cond.code mpoll prog_64_method_6_code 2 (some .int) :: ws) rO0) (fun a U => a = #[(.ref a0)] ∧ Z.Warmed39 U.vm ∧ U.heap = h0) (fun _ _ _ _ _ => True) (fun _ U o U' => ∃ v L, o = .returned v ∧ Q11t7 Z a0 bh bd bp x0 x1 u1 h0 n0 v U'.heap L ∧ FrameEnd U o U' L rO0.cells rO0.slots) := by
  refine MetFree.of_bodySF (plainFor_of_name pn_1) hisR ?_
  intro p e s m args below meth c s₁ Bd hml0 hP hK
  obtain ⟨rfl, hZ, hh⟩ := hP
  have hx := Bd.exec
  have hby := Bd.bytes
  have hml : c.maxLocals = 2 := hml0
  have hown : s.vm.findClass "com/example/wayshard/wayshard/service/VertexQueue" = some m.cls := findClass_of_methodNamed Bd.named
  have hnm := (name_of_methodNamed Bd.named Bd.method).1
  have hlk : meth.locks = false := BodyLoose.notSynchronized Bd
  have X0 : Stand p l e rO0 s m #[(.ref a0)] below meth c s₁ [] 0 0 := Stand.of_body Bd
  have e0 : s₁.heap = h0 := by rw [← hh, Bd.state]; rfl
  have N0 := Fr.nil n0
  show Run p e s below (Q11t7 Z a0 bh bd bp x0 x1 u1 h0 n0) rO0.cells rO0.slots s₁ (entryFrame m #[(.ref a0)] 2)
  rw [ef_11t7]
  obtain ⟨E, Fh, Fd, Fp, Fs, Ft, Ah, Ad, Ap, g0, gh, gd, gp, n0h, n0d, n0p, nhd, nhp, ndp⟩ := St
  show Run _ _ _ _ _ _ _ s₁ (mkF m 0 #[.val (.ref a0), .unset] [])
  refine go (T' := s₁) (f' := (mkF m 1 #[.val (.ref a0), .unset] [(.ref a0)])) (by intro t k; exact XS.aloadN X0.here hx rfl (hb hby d11_0) rfl rfl k) ?_
  obtain ⟨T1, X1, e1, st1⟩ := getF X0 hx hZ hown (host := "") (Or.inl (tw hw 30 rfl)) Via.refl e0 Fs (g := (mkF m 1 #[.val (.ref a0), .unset] [(.ref a0)])) rfl rfl (hb hby d11_1)
  refine go st1 ?_
  show Run _ _ _ _ _ _ _ T1 (mkF m 4 #[.val (.ref a0), .unset] [(.int (1 : Int32))])
  refine go (T' := T1) (f' := (mkF m 15 #[.val (.ref a0), .unset] [])) (by intro t k; exact XS.ifYes X1.here hx rfl (pc0 := 4) (pc' := 15) rfl (hb hby d11_4) rfl ((if0 _ _).trans (feq (by decide : ¬ ((1 : Int32) = (0 : Int32)))).2) (by decide) (by decide) k) ?_
  refine go (T' := T1) (f' := (mkF m 16 #[.val (.ref a0), .unset] [(.ref a0)])) (by intro t k; exact XS.aloadN X1.here hx rfl (hb hby d11_15) rfl rfl k) ?_
  obtain ⟨T2, X2, e2, st2⟩ := getF X1 hx hZ hown (host := "") (Or.inl (tw hw 10 rfl)) Via.refl e1 Fh (g := (mkF m 16 #[.val (.ref a0), .unset] [(.ref a0)])) rfl rfl (hb hby d11_16)
  refine go st2 ?_
  show Run _ _ _ _ _ _ _ T2 (mkF m 19 #[.val (.ref a0), .unset] [(.ref bh)])
  refine go (T' := T2) (f' := (mkF m 20 #[.val (.ref a0), .unset] [(.int (0 : Int32)), (.ref bh)])) (by intro t k; exact XS.iconst X2.here hx rfl (hb hby d11_19) k) ?_
  refine go (T' := T2) (f' := (mkF m 21 #[.val (.ref a0), .unset] [(.int (0 : Int32))])) (by intro t k; exact ldI X2 hx hZ e2 Ah (j := (0 : Int32)) (v := (.int (0 : Int32))) (by decide) rfl (g := (mkF m 20 #[.val (.ref a0), .unset] [(.int (0 : Int32)), (.ref bh)])) rfl rfl (hb hby d11_20) _ k) ?_
  refine go (T' := T2) (f' := (mkF m 22 #[.val (.ref a0), .val (.int (0 : Int32))] [])) (by intro t k; exact XS.istoreN X2.here hx rfl (hb hby d11_21) rfl (l' := #[.val (.ref a0), .val (.int (0 : Int32))]) rfl k) ?_
  refine go (T' := T2) (f' := (mkF m 23 #[.val (.ref a0), .val (.int (0 : Int32))] [(.ref a0)])) (by intro t k; exact XS.aloadN X2.here hx rfl (hb hby d11_22) rfl rfl k) ?_
  refine go (T' := T2) (f' := (mkF m 24 #[.val (.ref a0), .val (.int (0 : Int32))] [(.ref a0), (.ref a0)])) (by intro t k; exact XS.dup X2.here hx rfl (hb hby d11_23) rfl rfl k) ?_
  obtain ⟨T3, X3, e3, st3⟩ := getF X2 hx hZ hown (host := "") (Or.inl (tw hw 30 rfl)) Via.refl e2 Fs (g := (mkF m 24 #[.val (.ref a0), .val (.int (0 : Int32))] [(.ref a0), (.ref a0)])) rfl rfl (hb hby d11_24)
  refine go st3 ?_
  show Run _ _ _ _ _ _ _ T3 (mkF m 27 #[.val (.ref a0), .val (.int (0 : Int32))] [(.int (1 : Int32)), (.ref a0)])
  refine go (T' := T3) (f' := (mkF m 28 #[.val (.ref a0), .val (.int (0 : Int32))] [(.int (1 : Int32)), (.int (1 : Int32)), (.ref a0)])) (by intro t k; exact XS.iconst X3.here hx rfl (hb hby d11_27) k) ?_
  refine go (T' := T3) (f' := (mkF m 29 #[.val (.ref a0), .val (.int (0 : Int32))] [(.int (0 : Int32)), (.ref a0)])) (by intro t k; exact XS.isub X3.here hx rfl (hb hby d11_28) rfl k) ?_
  obtain ⟨T4, h4, X4, e4, W4, st4⟩ := putF X3 hx hZ hown (host := "") (Or.inl (tw hw 30 rfl)) Via.refl e3 Fs E (Or.inl (tw hw 31 rfl)) (tw hw 1 rfl) (ty := .int) (by decide) rfl rfl (g := (mkF m 29 #[.val (.ref a0), .val (.int (0 : Int32))] [(.int (0 : Int32)), (.ref a0)])) rfl rfl (hb hby d11_29)
  have K4 : Keep h0 h4 [a0] := Keep.of_wr W4
  have F4_a0_heap := Fld.other W4 Fh (Or.inr (slot_ne (Or.inr (tw hw 11 rfl)) (Or.inl (tw hw 31 rfl)) (by decide) (t := (.array .int)) (t' := .int) (by decide) (by decide)))
  have F4_a0_priorities := Fld.other W4 Fd (Or.inr (slot_ne (Or.inr (tw hw 14 rfl)) (Or.inl (tw hw 31 rfl)) (by decide) (t := (.array .double)) (t' := .int) (by decide) (by decide)))
  have F4_a0_places := Fld.other W4 Fp (Or.inr (slot_ne (Or.inr (tw hw 16 rfl)) (Or.inl (tw hw 31 rfl)) (by decide) (t := (.array .int)) (t' := .int) (by decide) (by decide)))
  have F4_a0_size : Fld Z h4 a0 "com/example/wayshard/wayshard/service/VertexQueue" "size" "I" (.int (0 : Int32)) := Fs.same W4
  have F4_a0_taken := Fld.other W4 Ft (Or.inr (slot_ne (Or.inl (tw hw 33 rfl)) (Or.inl (tw hw 31 rfl)) (by decide) (t := .int) (t' := .int) (by decide) (by decide)))
  have N4 := Fr.snoc X4 N0 g0
  have E4_a0 := Exa.keep E K4
  have A4_bh := Ary.keep Ah K4 (ninS (Ne.symm n0h) nin0)
  have A4_bd := Ary.keep Ad K4 (ninS (Ne.symm n0d) nin0)
  have A4_bp := Ary.keep Ap K4 (ninS (Ne.symm n0p) nin0)
  have Z4 : n0 ≤ h4.size := Nat.le_trans Z0 K4.1
  have KK4 : Keep h0 h4 [a0, bh, bd, bp] := (Keep.refl _ _).trans K4 (allS (Or.inl (List.mem_of_getElem? (i := 0) rfl)) all0)
  refine go st4 ?_
  show Run _ _ _ _ _ _ _ T4 (mkF m 32 #[.val (.ref a0), .val (.int (0 : Int32))] [])
  refine go (T' := T4) (f' := (mkF m 33 #[.val (.ref a0), .val (.int (0 : Int32))] [(.ref a0)])) (by intro t k; exact XS.aloadN X4.here hx rfl (hb hby d11_32) rfl rfl k) ?_
  obtain ⟨T5, X5, e5, st5⟩ := getF X4 hx hZ hown (host := "") (Or.inl (tw hw 30 rfl)) Via.refl e4 F4_a0_size (g := (mkF m 33 #[.val (.ref a0), .val (.int (0 : Int32))] [(.ref a0)])) rfl rfl (hb hby d11_33)
  refine go st5 ?_
  show Run _ _ _ _ _ _ _ T5 (mkF m 36 #[.val (.ref a0), .val (.int (0 : Int32))] [(.int (0 : Int32))])
  refine go (T' := T5) (f' := (mkF m 71 #[.val (.ref a0), .val (.int (0 : Int32))] [])) (by intro t k; exact XS.ifYes X5.here hx rfl (pc0 := 36) (pc' := 71) rfl (hb hby d11_36) rfl ((if0 _ _).trans (flt (by decide : ¬ ((0 : Int32) < (0 : Int32)))).2.2.2) (by decide) (by decide) k) ?_
  refine go (T' := T5) (f' := (mkF m 72 #[.val (.ref a0), .val (.int (0 : Int32))] [(.ref a0)])) (by intro t k; exact XS.aloadN X5.here hx rfl (hb hby d11_71) rfl rfl k) ?_
  refine go (T' := T5) (f' := (mkF m 73 #[.val (.ref a0), .val (.int (0 : Int32))] [(.ref a0), (.ref a0)])) (by intro t k; exact XS.dup X5.here hx rfl (hb hby d11_72) rfl rfl k) ?_
  obtain ⟨T6, X6, e6, st6⟩ := getF X5 hx hZ hown (host := "") (Or.inl (tw hw 32 rfl)) Via.refl e5 F4_a0_taken (g := (mkF m 73 #[.val (.ref a0), .val (.int (0 : Int32))] [(.ref a0), (.ref a0)])) rfl rfl (hb hby d11_73)
  refine go st6 ?_
  show Run _ _ _ _ _ _ _ T6 (mkF m 76 #[.val (.ref a0), .val (.int (0 : Int32))] [(.int (0 : Int32)), (.ref a0)])
  refine go (T' := T6) (f' := (mkF m 77 #[.val (.ref a0), .val (.int (0 : Int32))] [(.int (1 : Int32)), (.int (0 : Int32)), (.ref a0)])) (by intro t k; exact XS.iconst X6.here hx rfl (hb hby d11_76) k) ?_
  refine go (T' := T6) (f' := (mkF m 78 #[.val (.ref a0), .val (.int (0 : Int32))] [(.int (1 : Int32)), (.ref a0)])) (by intro t k; exact XS.iadd X6.here hx rfl (hb hby d11_77) rfl k) ?_
  obtain ⟨T7, h7, X7, e7, W7, st7⟩ := putF X6 hx hZ hown (host := "") (Or.inl (tw hw 32 rfl)) Via.refl e6 F4_a0_taken E4_a0 (Or.inl (tw hw 33 rfl)) (tw hw 1 rfl) (ty := .int) (by decide) rfl rfl (g := (mkF m 78 #[.val (.ref a0), .val (.int (0 : Int32))] [(.int (1 : Int32)), (.ref a0)])) rfl rfl (hb hby d11_78)
  have K7 : Keep h4 h7 [a0] := Keep.of_wr W7
  have F7_a0_heap := Fld.other W7 F4_a0_heap (Or.inr (slot_ne (Or.inr (tw hw 11 rfl)) (Or.inl (tw hw 33 rfl)) (by decide) (t := (.array .int)) (t' := .int) (by decide) (by decide)))
  have F7_a0_priorities := Fld.other W7 F4_a0_priorities (Or.inr (slot_ne (Or.inr (tw hw 14 rfl)) (Or.inl (tw hw 33 rfl)) (by decide) (t := (.array .double)) (t' := .int) (by decide) (by decide)))
  have F7_a0_places := Fld.other W7 F4_a0_places (Or.inr (slot_ne (Or.inr (tw hw 16 rfl)) (Or.inl (tw hw 33 rfl)) (by decide) (t := (.array .int)) (t' := .int) (by decide) (by decide)))
  have F7_a0_size := Fld.other W7 F4_a0_size (Or.inr (slot_ne (Or.inl (tw hw 31 rfl)) (Or.inl (tw hw 33 rfl)) (by decide) (t := .int) (t' := .int) (by decide) (by decide)))
  have F7_a0_taken : Fld Z h7 a0 "com/example/wayshard/wayshard/service/VertexQueue" "taken" "I" (.int (1 : Int32)) := F4_a0_taken.same W7
  have N7 := Fr.snoc X7 N4 g0
  have E7_a0 := Exa.keep E4_a0 K7
  have A7_bh := Ary.keep A4_bh K7 (ninS (Ne.symm n0h) nin0)
  have A7_bd := Ary.keep A4_bd K7 (ninS (Ne.symm n0d) nin0)
  have A7_bp := Ary.keep A4_bp K7 (ninS (Ne.symm n0p) nin0)
  have Z7 : n0 ≤ h7.size := Nat.le_trans Z4 K7.1
  have KK7 : Keep h0 h7 [a0, bh, bd, bp] := KK4.trans K7 (allS (Or.inl (List.mem_of_getElem? (i := 0) rfl)) all0)
  refine go st7 ?_
  show Run _ _ _ _ _ _ _ T7 (mkF m 81 #[.val (.ref a0), .val (.int (0 : Int32))] [])
  refine go (T' := T7) (f' := (mkF m 82 #[.val (.ref a0), .val (.int (0 : Int32))] [(.ref a0)])) (by intro t k; exact XS.aloadN X7.here hx rfl (hb hby d11_81) rfl rfl k) ?_
  obtain ⟨T8, X8, e8, st8⟩ := getF X7 hx hZ hown (host := "") (Or.inl (tw hw 10 rfl)) Via.refl e7 F7_a0_heap (g := (mkF m 82 #[.val (.ref a0), .val (.int (0 : Int32))] [(.ref a0)])) rfl rfl (hb hby d11_82)
  refine go st8 ?_
  show Run _ _ _ _ _ _ _ T8 (mkF m 85 #[.val (.ref a0), .val (.int (0 : Int32))] [(.ref bh)])
  refine go (T' := T8) (f' := (mkF m 86 #[.val (.ref a0), .val (.int (0 : Int32))] [(.ref a0), (.ref bh)])) (by intro t k; exact XS.aloadN X8.here hx rfl (hb hby d11_85) rfl rfl k) ?_
  obtain ⟨T9, X9, e9, st9⟩ := getF X8 hx hZ hown (host := "") (Or.inl (tw hw 10 rfl)) Via.refl e8 F7_a0_heap (g := (mkF m 86 #[.val (.ref a0), .val (.int (0 : Int32))] [(.ref a0), (.ref bh)])) rfl rfl (hb hby d11_86)
  refine go st9 ?_
  show Run _ _ _ _ _ _ _ T9 (mkF m 89 #[.val (.ref a0), .val (.int (0 : Int32))] [(.ref bh), (.ref bh)])
  refine go (T' := T9) (f' := (mkF m 90 #[.val (.ref a0), .val (.int (0 : Int32))] [(.int (2 : Int32)), (.ref bh)])) (by intro t k; exact alen X9 hx hZ e9 A7_bh (z := (2 : Int32)) rfl (g := (mkF m 89 #[.val (.ref a0), .val (.int (0 : Int32))] [(.ref bh), (.ref bh)])) rfl rfl (hb hby d11_89) _ k) ?_
  refine go (T' := T9) (f' := (mkF m 91 #[.val (.ref a0), .val (.int (0 : Int32))] [(.ref a0), (.int (2 : Int32)), (.ref bh)])) (by intro t k; exact XS.aloadN X9.here hx rfl (hb hby d11_90) rfl rfl k) ?_
  obtain ⟨T10, X10, e10, st10⟩ := getF X9 hx hZ hown (host := "") (Or.inl (tw hw 32 rfl)) Via.refl e9 F7_a0_taken (g := (mkF m 91 #[.val (.ref a0), .val (.int (0 : Int32))] [(.ref a0), (.int (2 : Int32)), (.ref bh)])) rfl rfl (hb hby d11_91)
  refine go st10 ?_
  show Run _ _ _ _ _ _ _ T10 (mkF m 94 #[.val (.ref a0), .val (.int (0 : Int32))] [(.int (1 : Int32)), (.int (2 : Int32)), (.ref bh)])
  refine go (T' := T10) (f' := (mkF m 95 #[.val (.ref a0), .val (.int (0 : Int32))] [(.int (1 : Int32)), (.ref bh)])) (by intro t k; exact XS.isub X10.here hx rfl (hb hby d11_94) rfl k) ?_
  refine go (T' := T10) (f' := (mkF m 96 #[.val (.ref a0), .val (.int (0 : Int32))] [(.int (0 : Int32)), (.int (1 : Int32)), (.ref bh)])) (by intro t k; exact XS.iloadN X10.here hx rfl (hb hby d11_95) rfl k) ?_
  obtain ⟨cl11, Ar11, hin11⟩ := Ary.st (j := (1 : Int32)) A7_bh (by decide) (by show (1 : Int32).toNatClampNeg < 2; decide)
  obtain ⟨T11, h11, X11, e11, W11, st11⟩ := stI X10 hx hZ e10 Ar11 (j := (1 : Int32)) hin11 (g := (mkF m 96 #[.val (.ref a0), .val (.int (0 : Int32))] [(.int (0 : Int32)), (.int (1 : Int32)), (.ref bh)])) rfl rfl (hb hby d11_96)
  have K11 : Keep h7 h11 [bh] := Keep.of_wr W11
  have V11 : Ary Z h11 bh .int [(.int (0 : Int32)), (.int (0 : Int32))] := Ary.set A7_bh W11 rfl
  have N11 := Fr.snoc X11 N7 gh
  have E11_a0 := Exa.keep E7_a0 K11
  have F11_a0_heap := Fld.keep F7_a0_heap K11 (ninS n0h nin0)
  have F11_a0_priorities := Fld.keep F7_a0_priorities K11 (ninS n0h nin0)
  have F11_a0_places := Fld.keep F7_a0_places K11 (ninS n0h nin0)
  have F11_a0_size := Fld.keep F7_a0_size K11 (ninS n0h nin0)
  have F11_a0_taken := Fld.keep F7_a0_taken K11 (ninS n0h nin0)
  have A11_bd := Ary.keep A7_bd K11 (ninS (Ne.symm nhd) nin0)
  have A11_bp := Ary.keep A7_bp K11 (ninS (Ne.symm nhp) nin0)
  have Z11 : n0 ≤ h11.size := Nat.le_trans Z7 K11.1
  have KK11 : Keep h0 h11 [a0, bh, bd, bp] := KK7.trans K11 (allS (Or.inl (List.mem_of_getElem? (i := 1) rfl)) all0)
  refine go st11 ?_
  show Run _ _ _ _ _ _ _ T11 (mkF m 97 #[.val (.ref a0), .val (.int (0 : Int32))] [])
  refine go (T' := T11) (f' := (mkF m 98 #[.val (.ref a0), .val (.int (0 : Int32))] [(.ref a0)])) (by intro t k; exact XS.aloadN X11.here hx rfl (hb hby d11_97) rfl rfl k) ?_
  obtain ⟨T12, X12, e12, st12⟩ := getF X11 hx hZ hown (host := "") (Or.inl (tw hw 15 rfl)) Via.refl e11 F11_a0_places (g := (mkF m 98 #[.val (.ref a0), .val (.int (0 : Int32))] [(.ref a0)])) rfl rfl (hb hby d11_98)
  refine go st12 ?_
  show Run _ _ _ _ _ _ _ T12 (mkF m 101 #[.val (.ref a0), .val (.int (0 : Int32))] [(.ref bp)])
  refine go (T' := T12) (f' := (mkF m 102 #[.val (.ref a0), .val (.int (0 : Int32))] [(.int (0 : Int32)), (.ref bp)])) (by intro t k; exact XS.iloadN X12.here hx rfl (hb hby d11_101) rfl k) ?_
  refine go (T' := T12) (f' := (mkF m 104 #[.val (.ref a0), .val (.int (0 : Int32))] [(.int (-2 : Int32)), (.int (0 : Int32)), (.ref bp)])) (by intro t k; exact XS.bipush X12.here hx rfl (hb hby d11_102) k) ?_
  obtain ⟨cl13, Ar13, hin13⟩ := Ary.st (j := (0 : Int32)) A11_bp (by decide) (by show (0 : Int32).toNatClampNeg < 2; decide)
  obtain ⟨T13, h13, X13, e13, W13, st13⟩ := stI X12 hx hZ e12 Ar13 (j := (0 : Int32)) hin13 (g := (mkF m 104 #[.val (.ref a0), .val (.int (0 : Int32))] [(.int (-2 : Int32)), (.int (0 : Int32)), (.ref bp)])) rfl rfl (hb hby d11_104)
  have K13 : Keep h11 h13 [bp] := Keep.of_wr W13
  have V13 : Ary Z h13 bp .int [(.int (-2 : Int32)), (.int (-1 : Int32))] := Ary.set A11_bp W13 rfl
  have N13 := Fr.snoc X13 N11 gp
  have E13_a0 := Exa.keep E11_a0 K13
  have F13_a0_heap := Fld.keep F11_a0_heap K13 (ninS n0p nin0)
  have F13_a0_priorities := Fld.keep F11_a0_priorities K13 (ninS n0p nin0)
  have F13_a0_places := Fld.keep F11_a0_places K13 (ninS n0p nin0)
  have F13_a0_size := Fld.keep F11_a0_size K13 (ninS n0p nin0)
  have F13_a0_taken := Fld.keep F11_a0_taken K13 (ninS n0p nin0)
  have A13_bh := Ary.keep V11 K13 (ninS nhp nin0)
  have A13_bd := Ary.keep A11_bd K13 (ninS ndp nin0)
  have Z13 : n0 ≤ h13.size := Nat.le_trans Z11 K13.1
  have KK13 : Keep h0 h13 [a0, bh, bd, bp] := KK11.trans K13 (allS (Or.inl (List.mem_of_getElem? (i := 3) rfl)) all0)
  refine go st13 ?_
  show Run _ _ _ _ _ _ _ T13 (mkF m 105 #[.val (.ref a0), .val (.int (0 : Int32))] [])
  refine go (T' := T13) (f' := (mkF m 106 #[.val (.ref a0), .val (.int (0 : Int32))] [(.int (0 : Int32))])) (by intro t k; exact XS.iloadN X13.here hx rfl (hb hby d11_105) rfl k) ?_
  refine retW X13 hx (t := .int) Bd.returns rfl (Or.inl ⟨rfl, Or.inl rfl, _, rfl⟩) (hb hby d11_106) hlk (by decide) (by decide) ?_
  show Q11t7 Z a0 bh bd bp x0 x1 u1 h0 n0 _ T13.heap _
  rw [e13]
  have hv : (some (.int (0 : Int32)) : Option Value) = some (.int (0 : Int32)) := rfl
  exact ⟨hv, N13, KK13, ⟨E13_a0, F13_a0_heap, F13_a0_priorities, F13_a0_places, F13_a0_size, F13_a0_taken, A13_bh, A13_bd, V13, g0, gh, gd, gp, n0h, n0d, n0p, nhd, nhp, ndp⟩⟩
theorem ef_6t8 (m : MethodId) (x0 : Addr) : entryFrame m #[(.ref x0)] 1 = mkF m 0 #[.val (.ref x0)] [] := by first | (simp [entryFrame, mkF, argsToLocals, Value.category]; done) | rfl
def Q6t8 (Z : State) (a0 : Addr) (bh bd bp : Addr) (x0 x1 : UInt64) (h0 : Heap) (n0 : Nat) (v : Option Value) (h : Heap) (L : List Loc) : Prop := v = some (.int (1 : Int32)) ∧ Fr n0 L ∧ Keep h0 h [a0, bh, bd, bp] ∧ own_st Z n0 h a0 bh bd bp (0 : Int32) (0 : Int32) (-2 : Int32) (-1 : Int32) (0 : Int32) (1 : Int32) x0 x1
set_option maxRecDepth 65536 in
set_option maxHeartbeats 40000000 in
theorem rm6t8 (l : Launch) (Z : State) (aw : Array Value) (hw : ∀ d ∈ tables_1, d.before aw Z = true) (ws : List Jvm.Cond) (a0 : Addr) (bh bd bp : Addr) (x0 x1 : UInt64) (h0 : Heap) (n0 : Nat) (Z0 : n0 ≤ h0.size) (St : own_st Z n0 h0 a0 bh bd bp (0 : Int32) (0 : Int32) (-2 : Int32) (-1 : Int32) (0 : Int32) (1 : Int32) x0 x1) :
    MetFree l misEmpty (head1 (Jvm.Cond.code misEmpty prog_64_method_2_code 1 (some .boolean) :: ws) rO0) (fun a U => a = #[(.ref a0)] ∧ Z.Warmed39 U.vm ∧ U.heap = h0) (fun _ _ _ _ _ => True) (fun _ U o U' => ∃ v L, o = .returned v ∧ Q6t8 Z a0 bh bd bp x0 x1 h0 n0 v U'.heap L ∧ FrameEnd U o U' L rO0.cells rO0.slots) := by
  refine MetFree.of_bodySF (plainFor_of_name pn_1) hisR ?_
  intro p e s m args below meth c s₁ Bd hml0 hP hK
  obtain ⟨rfl, hZ, hh⟩ := hP
  have hx := Bd.exec
  have hby := Bd.bytes
  have hml : c.maxLocals = 1 := hml0
  have hown : s.vm.findClass "com/example/wayshard/wayshard/service/VertexQueue" = some m.cls := findClass_of_methodNamed Bd.named
  have hnm := (name_of_methodNamed Bd.named Bd.method).1
  have hlk : meth.locks = false := BodyLoose.notSynchronized Bd
  have X0 : Stand p l e rO0 s m #[(.ref a0)] below meth c s₁ [] 0 0 := Stand.of_body Bd
  have e0 : s₁.heap = h0 := by rw [← hh, Bd.state]; rfl
  have N0 := Fr.nil n0
  show Run p e s below (Q6t8 Z a0 bh bd bp x0 x1 h0 n0) rO0.cells rO0.slots s₁ (entryFrame m #[(.ref a0)] 1)
  rw [ef_6t8]
  obtain ⟨E, Fh, Fd, Fp, Fs, Ft, Ah, Ad, Ap, g0, gh, gd, gp, n0h, n0d, n0p, nhd, nhp, ndp⟩ := St
  show Run _ _ _ _ _ _ _ s₁ (mkF m 0 #[.val (.ref a0)] [])
  refine go (T' := s₁) (f' := (mkF m 1 #[.val (.ref a0)] [(.ref a0)])) (by intro t k; exact XS.aloadN X0.here hx rfl (hb hby d6_0) rfl rfl k) ?_
  obtain ⟨T1, X1, e1, st1⟩ := getF X0 hx hZ hown (host := "") (Or.inl (tw hw 30 rfl)) Via.refl e0 Fs (g := (mkF m 1 #[.val (.ref a0)] [(.ref a0)])) rfl rfl (hb hby d6_1)
  refine go st1 ?_
  show Run _ _ _ _ _ _ _ T1 (mkF m 4 #[.val (.ref a0)] [(.int (0 : Int32))])
  refine go (T' := T1) (f' := (mkF m 7 #[.val (.ref a0)] [])) (by intro t k; exact XS.ifNo X1.here hx rfl (hb hby d6_4) rfl ((if0 _ _).trans (teq (rfl : (0 : Int32) = (0 : Int32))).2) k) ?_
  refine go (T' := T1) (f' := (mkF m 8 #[.val (.ref a0)] [(.int (1 : Int32))])) (by intro t k; exact XS.iconst X1.here hx rfl (hb hby d6_7) k) ?_
  refine go (T' := T1) (f' := (mkF m 12 #[.val (.ref a0)] [(.int (1 : Int32))])) (by intro t k; exact XS.goto X1.here hx rfl (pc0 := 8) (pc' := 12) rfl (hb hby d6_8) (by decide) (by decide) k) ?_
  refine retZ X1 hx (t := .boolean) Bd.returns (by simp) (hb hby d6_12) hlk (by decide) (by decide) ?_
  show Q6t8 Z a0 bh bd bp x0 x1 h0 n0 _ T1.heap _
  rw [e1]
  have hv' : (nar .boolean (1 : Int32)) = (1 : Int32) := by
    rfl
  have hv : (some (.int (nar .boolean (1 : Int32))) : Option Value) = some (.int (1 : Int32)) := congrArg (fun z => (some (.int z) : Option Value)) hv'
  exact ⟨hv, N0, (Keep.refl _ _), ⟨E, Fh, Fd, Fp, Fs, Ft, Ah, Ad, Ap, g0, gh, gd, gp, n0h, n0d, n0p, nhd, nhp, ndp⟩⟩
theorem ef_10t11 (m : MethodId) (x0 : Addr) : entryFrame m #[(.ref x0), (.int (1 : Int32)), (.int (0 : Int32))] 3 = mkF m 0 #[.val (.ref x0), .val (.int (1 : Int32)), .val (.int (0 : Int32))] [] := by first | (simp [entryFrame, mkF, argsToLocals, Value.category]; done) | rfl
def Q10t11 (Z : State) (a0 : Addr) (bh bd bp : Addr) (x0 x1 : UInt64) (u1 : Int32) (h0 : Heap) (n0 : Nat) (v : Option Value) (h : Heap) (L : List Loc) : Prop := v = none ∧ Fr n0 L ∧ Keep h0 h [a0, bh, bd, bp] ∧ own_st Z n0 h a0 bh bd bp (1 : Int32) u1 (-1 : Int32) (0 : Int32) (1 : Int32) (0 : Int32) x0 x1
set_option maxRecDepth 65536 in
set_option maxHeartbeats 40000000 in
theorem rm10t11 (l : Launch) (Z : State) (aw : Array Value) (hw : ∀ d ∈ tables_1, d.before aw Z = true) (ws : List Jvm.Cond) (a0 : Addr) (bh bd bp : Addr) (x0 x1 : UInt64) (u1 : Int32) (h0 : Heap) (n0 : Nat) (Z0 : n0 ≤ h0.size) (St : own_st Z n0 h0 a0 bh bd bp (1 : Int32) u1 (-1 : Int32) (0 : Int32) (1 : Int32) (0 : Int32) x0 x1) :
    MetFree l mmove (head1 (Jvm.Cond.code mmove prog_64_method_9_code 3 none :: ws) rO0) (fun a U => a = #[(.ref a0), (.int (1 : Int32)), (.int (0 : Int32))] ∧ Z.Warmed39 U.vm ∧ U.heap = h0) (fun _ _ _ _ _ => True) (fun _ U o U' => ∃ v L, o = .returned v ∧ Q10t11 Z a0 bh bd bp x0 x1 u1 h0 n0 v U'.heap L ∧ FrameEnd U o U' L rO0.cells rO0.slots) := by
  refine MetFree.of_bodySF (plainFor_of_name pn_1) hisR ?_
  intro p e s m args below meth c s₁ Bd hml0 hP hK
  obtain ⟨rfl, hZ, hh⟩ := hP
  have hx := Bd.exec
  have hby := Bd.bytes
  have hml : c.maxLocals = 3 := hml0
  have hown : s.vm.findClass "com/example/wayshard/wayshard/service/VertexQueue" = some m.cls := findClass_of_methodNamed Bd.named
  have hnm := (name_of_methodNamed Bd.named Bd.method).1
  have hlk : meth.locks = false := BodyLoose.notSynchronized Bd
  have X0 : Stand p l e rO0 s m #[(.ref a0), (.int (1 : Int32)), (.int (0 : Int32))] below meth c s₁ [] 0 0 := Stand.of_body Bd
  have e0 : s₁.heap = h0 := by rw [← hh, Bd.state]; rfl
  have N0 := Fr.nil n0
  show Run p e s below (Q10t11 Z a0 bh bd bp x0 x1 u1 h0 n0) rO0.cells rO0.slots s₁ (entryFrame m #[(.ref a0), (.int (1 : Int32)), (.int (0 : Int32))] 3)
  rw [ef_10t11]
  obtain ⟨E, Fh, Fd, Fp, Fs, Ft, Ah, Ad, Ap, g0, gh, gd, gp, n0h, n0d, n0p, nhd, nhp, ndp⟩ := St
  show Run _ _ _ _ _ _ _ s₁ (mkF m 0 #[.val (.ref a0), .val (.int (1 : Int32)), .val (.int (0 : Int32))] [])
  refine go (T' := s₁) (f' := (mkF m 1 #[.val (.ref a0), .val (.int (1 : Int32)), .val (.int (0 : Int32))] [(.ref a0)])) (by intro t k; exact XS.aloadN X0.here hx rfl (hb hby d10_0) rfl rfl k) ?_
  obtain ⟨T1, X1, e1, st1⟩ := getF X0 hx hZ hown (host := "") (Or.inl (tw hw 10 rfl)) Via.refl e0 Fh (g := (mkF m 1 #[.val (.ref a0), .val (.int (1 : Int32)), .val (.int (0 : Int32))] [(.ref a0)])) rfl rfl (hb hby d10_1)
  refine go st1 ?_
  show Run _ _ _ _ _ _ _ T1 (mkF m 4 #[.val (.ref a0), .val (.int (1 : Int32)), .val (.int (0 : Int32))] [(.ref bh)])
  refine go (T' := T1) (f' := (mkF m 5 #[.val (.ref a0), .val (.int (1 : Int32)), .val (.int (0 : Int32))] [(.int (0 : Int32)), (.ref bh)])) (by intro t k; exact XS.iloadN X1.here hx rfl (hb hby d10_4) rfl k) ?_
  refine go (T' := T1) (f' := (mkF m 6 #[.val (.ref a0), .val (.int (1 : Int32)), .val (.int (0 : Int32))] [(.int (1 : Int32)), (.int (0 : Int32)), (.ref bh)])) (by intro t k; exact XS.iloadN X1.here hx rfl (hb hby d10_5) rfl k) ?_
  obtain ⟨cl2, Ar2, hin2⟩ := Ary.st (j := (0 : Int32)) Ah (by decide) (by show (0 : Int32).toNatClampNeg < 2; decide)
  obtain ⟨T2, h2, X2, e2, W2, st2⟩ := stI X1 hx hZ e1 Ar2 (j := (0 : Int32)) hin2 (g := (mkF m 6 #[.val (.ref a0), .val (.int (1 : Int32)), .val (.int (0 : Int32))] [(.int (1 : Int32)), (.int (0 : Int32)), (.ref bh)])) rfl rfl (hb hby d10_6)
  have K2 : Keep h0 h2 [bh] := Keep.of_wr W2
  have V2 : Ary Z h2 bh .int [(.int (1 : Int32)), (.int u1)] := Ary.set Ah W2 rfl
  have N2 := Fr.snoc X2 N0 gh
  have E2_a0 := Exa.keep E K2
  have F2_a0_heap := Fld.keep Fh K2 (ninS n0h nin0)
  have F2_a0_priorities := Fld.keep Fd K2 (ninS n0h nin0)
  have F2_a0_places := Fld.keep Fp K2 (ninS n0h nin0)
  have F2_a0_size := Fld.keep Fs K2 (ninS n0h nin0)
  have F2_a0_taken := Fld.keep Ft K2 (ninS n0h nin0)
  have A2_bd := Ary.keep Ad K2 (ninS (Ne.symm nhd) nin0)
  have A2_bp := Ary.keep Ap K2 (ninS (Ne.symm nhp) nin0)
  have Z2 : n0 ≤ h2.size := Nat.le_trans Z0 K2.1
  have KK2 : Keep h0 h2 [a0, bh, bd, bp] := (Keep.refl _ _).trans K2 (allS (Or.inl (List.mem_of_getElem? (i := 1) rfl)) all0)
  refine go st2 ?_
  show Run _ _ _ _ _ _ _ T2 (mkF m 7 #[.val (.ref a0), .val (.int (1 : Int32)), .val (.int (0 : Int32))] [])
  refine go (T' := T2) (f' := (mkF m 8 #[.val (.ref a0), .val (.int (1 : Int32)), .val (.int (0 : Int32))] [(.ref a0)])) (by intro t k; exact XS.aloadN X2.here hx rfl (hb hby d10_7) rfl rfl k) ?_
  obtain ⟨T3, X3, e3, st3⟩ := getF X2 hx hZ hown (host := "") (Or.inl (tw hw 15 rfl)) Via.refl e2 F2_a0_places (g := (mkF m 8 #[.val (.ref a0), .val (.int (1 : Int32)), .val (.int (0 : Int32))] [(.ref a0)])) rfl rfl (hb hby d10_8)
  refine go st3 ?_
  show Run _ _ _ _ _ _ _ T3 (mkF m 11 #[.val (.ref a0), .val (.int (1 : Int32)), .val (.int (0 : Int32))] [(.ref bp)])
  refine go (T' := T3) (f' := (mkF m 12 #[.val (.ref a0), .val (.int (1 : Int32)), .val (.int (0 : Int32))] [(.int (1 : Int32)), (.ref bp)])) (by intro t k; exact XS.iloadN X3.here hx rfl (hb hby d10_11) rfl k) ?_
  refine go (T' := T3) (f' := (mkF m 13 #[.val (.ref a0), .val (.int (1 : Int32)), .val (.int (0 : Int32))] [(.int (0 : Int32)), (.int (1 : Int32)), (.ref bp)])) (by intro t k; exact XS.iloadN X3.here hx rfl (hb hby d10_12) rfl k) ?_
  obtain ⟨cl4, Ar4, hin4⟩ := Ary.st (j := (1 : Int32)) A2_bp (by decide) (by show (1 : Int32).toNatClampNeg < 2; decide)
  obtain ⟨T4, h4, X4, e4, W4, st4⟩ := stI X3 hx hZ e3 Ar4 (j := (1 : Int32)) hin4 (g := (mkF m 13 #[.val (.ref a0), .val (.int (1 : Int32)), .val (.int (0 : Int32))] [(.int (0 : Int32)), (.int (1 : Int32)), (.ref bp)])) rfl rfl (hb hby d10_13)
  have K4 : Keep h2 h4 [bp] := Keep.of_wr W4
  have V4 : Ary Z h4 bp .int [(.int (-1 : Int32)), (.int (0 : Int32))] := Ary.set A2_bp W4 rfl
  have N4 := Fr.snoc X4 N2 gp
  have E4_a0 := Exa.keep E2_a0 K4
  have F4_a0_heap := Fld.keep F2_a0_heap K4 (ninS n0p nin0)
  have F4_a0_priorities := Fld.keep F2_a0_priorities K4 (ninS n0p nin0)
  have F4_a0_places := Fld.keep F2_a0_places K4 (ninS n0p nin0)
  have F4_a0_size := Fld.keep F2_a0_size K4 (ninS n0p nin0)
  have F4_a0_taken := Fld.keep F2_a0_taken K4 (ninS n0p nin0)
  have A4_bh := Ary.keep V2 K4 (ninS nhp nin0)
  have A4_bd := Ary.keep A2_bd K4 (ninS ndp nin0)
  have Z4 : n0 ≤ h4.size := Nat.le_trans Z2 K4.1
  have KK4 : Keep h0 h4 [a0, bh, bd, bp] := KK2.trans K4 (allS (Or.inl (List.mem_of_getElem? (i := 3) rfl)) all0)
  refine go st4 ?_
  show Run _ _ _ _ _ _ _ T4 (mkF m 14 #[.val (.ref a0), .val (.int (1 : Int32)), .val (.int (0 : Int32))] [])
  refine retV X4 hx Bd.returns (hb hby d10_14) hlk (by decide) (by decide) ?_
  show Q10t11 Z a0 bh bd bp x0 x1 u1 h0 n0 _ T4.heap _
  rw [e4]
  exact ⟨rfl, N4, KK4, ⟨E4_a0, F4_a0_heap, F4_a0_priorities, F4_a0_places, F4_a0_size, F4_a0_taken, A4_bh, A4_bd, V4, g0, gh, gd, gp, n0h, n0d, n0p, nhd, nhp, ndp⟩⟩
theorem ef_9t10 (m : MethodId) (x0 : Addr) : entryFrame m #[(.ref x0), (.int (0 : Int32))] 5 = mkF m 0 #[.val (.ref x0), .val (.int (0 : Int32)), .unset, .unset, .unset] [] := by first | (simp [entryFrame, mkF, argsToLocals, Value.category]; done) | rfl
def Q9t10 (Z : State) (a0 : Addr) (bh bd bp : Addr) (x0 x1 : UInt64) (u1 : Int32) (h0 : Heap) (n0 : Nat) (v : Option Value) (h : Heap) (L : List Loc) : Prop := v = none ∧ Fr n0 L ∧ Keep h0 h [a0, bh, bd, bp] ∧ own_st Z n0 h a0 bh bd bp (1 : Int32) u1 (-1 : Int32) (0 : Int32) (1 : Int32) (0 : Int32) x0 x1
set_option maxRecDepth 65536 in
set_option maxHeartbeats 40000000 in
theorem rm9t10 (l : Launch) (Z : State) (aw : Array Value) (hw : ∀ d ∈ tables_1, d.before aw Z = true) (ws : List Jvm.Cond) (a0 : Addr) (bh bd bp : Addr) (x0 x1 : UInt64) (u1 : Int32) (h0 : Heap) (n0 : Nat) (Z0 : n0 ≤ h0.size) (St : own_st Z n0 h0 a0 bh bd bp (1 : Int32) u1 (-1 : Int32) (0 : Int32) (1 : Int32) (0 : Int32) x0 x1) :
    MetFree l msiftUp (head1 (Jvm.Cond.code msiftUp prog_64_method_7_code 5 none :: ws) rO1) (fun a U => a = #[(.ref a0), (.int (0 : Int32))] ∧ Z.Warmed39 U.vm ∧ U.heap = h0) (fun _ _ _ _ _ => True) (fun _ U o U' => ∃ v L, o = .returned v ∧ Q9t10 Z a0 bh bd bp x0 x1 u1 h0 n0 v U'.heap L ∧ FrameEnd U o U' L rO1.cells rO1.slots) := by
  refine MetFree.of_bodySF (plainFor_of_name pn_1) hisR ?_
  intro p e s m args below meth c s₁ Bd hml0 hP hK
  obtain ⟨rfl, hZ, hh⟩ := hP
  have hx := Bd.exec
  have hby := Bd.bytes
  have hml : c.maxLocals = 5 := hml0
  have hown : s.vm.findClass "com/example/wayshard/wayshard/service/VertexQueue" = some m.cls := findClass_of_methodNamed Bd.named
  have hnm := (name_of_methodNamed Bd.named Bd.method).1
  have hlk : meth.locks = false := BodyLoose.notSynchronized Bd
  have X0 : Stand p l e rO1 s m #[(.ref a0), (.int (0 : Int32))] below meth c s₁ [] 0 0 := Stand.of_body Bd
  have e0 : s₁.heap = h0 := by rw [← hh, Bd.state]; rfl
  have N0 := Fr.nil n0
  show Run p e s below (Q9t10 Z a0 bh bd bp x0 x1 u1 h0 n0) rO1.cells rO1.slots s₁ (entryFrame m #[(.ref a0), (.int (0 : Int32))] 5)
  rw [ef_9t10]
  obtain ⟨E, Fh, Fd, Fp, Fs, Ft, Ah, Ad, Ap, g0, gh, gd, gp, n0h, n0d, n0p, nhd, nhp, ndp⟩ := St
  show Run _ _ _ _ _ _ _ s₁ (mkF m 0 #[.val (.ref a0), .val (.int (0 : Int32)), .unset, .unset, .unset] [])
  refine go (T' := s₁) (f' := (mkF m 1 #[.val (.ref a0), .val (.int (0 : Int32)), .unset, .unset, .unset] [(.ref a0)])) (by intro t k; exact XS.aloadN X0.here hx rfl (hb hby d9_0) rfl rfl k) ?_
  obtain ⟨T1, X1, e1, st1⟩ := getF X0 hx hZ hown (host := "") (Or.inl (tw hw 10 rfl)) Via.refl e0 Fh (g := (mkF m 1 #[.val (.ref a0), .val (.int (0 : Int32)), .unset, .unset, .unset] [(.ref a0)])) rfl rfl (hb hby d9_1)
  refine go st1 ?_
  show Run _ _ _ _ _ _ _ T1 (mkF m 4 #[.val (.ref a0), .val (.int (0 : Int32)), .unset, .unset, .unset] [(.ref bh)])
  refine go (T' := T1) (f' := (mkF m 5 #[.val (.ref a0), .val (.int (0 : Int32)), .unset, .unset, .unset] [(.int (0 : Int32)), (.ref bh)])) (by intro t k; exact XS.iloadN X1.here hx rfl (hb hby d9_4) rfl k) ?_
  refine go (T' := T1) (f' := (mkF m 6 #[.val (.ref a0), .val (.int (0 : Int32)), .unset, .unset, .unset] [(.int (1 : Int32))])) (by intro t k; exact ldI X1 hx hZ e1 Ah (j := (0 : Int32)) (v := (.int (1 : Int32))) (by decide) rfl (g := (mkF m 5 #[.val (.ref a0), .val (.int (0 : Int32)), .unset, .unset, .unset] [(.int (0 : Int32)), (.ref bh)])) rfl rfl (hb hby d9_5) _ k) ?_
  refine go (T' := T1) (f' := (mkF m 7 #[.val (.ref a0), .val (.int (0 : Int32)), .val (.int (1 : Int32)), .unset, .unset] [])) (by intro t k; exact XS.istoreN X1.here hx rfl (hb hby d9_6) rfl (l' := #[.val (.ref a0), .val (.int (0 : Int32)), .val (.int (1 : Int32)), .unset, .unset]) rfl k) ?_
  refine go (T' := T1) (f' := (mkF m 8 #[.val (.ref a0), .val (.int (0 : Int32)), .val (.int (1 : Int32)), .unset, .unset] [(.int (0 : Int32))])) (by intro t k; exact XS.iloadN X1.here hx rfl (hb hby d9_7) rfl k) ?_
  refine go (T' := T1) (f' := (mkF m 9 #[.val (.ref a0), .val (.int (0 : Int32)), .val (.int (1 : Int32)), .val (.int (0 : Int32)), .unset] [])) (by intro t k; exact XS.istoreN X1.here hx rfl (hb hby d9_8) rfl (l' := #[.val (.ref a0), .val (.int (0 : Int32)), .val (.int (1 : Int32)), .val (.int (0 : Int32)), .unset]) rfl k) ?_
  refine go (T' := T1) (f' := (mkF m 10 #[.val (.ref a0), .val (.int (0 : Int32)), .val (.int (1 : Int32)), .val (.int (0 : Int32)), .unset] [(.int (0 : Int32))])) (by intro t k; exact XS.iloadN X1.here hx rfl (hb hby d9_9) rfl k) ?_
  refine go (T' := T1) (f' := (mkF m 63 #[.val (.ref a0), .val (.int (0 : Int32)), .val (.int (1 : Int32)), .val (.int (0 : Int32)), .unset] [])) (by intro t k; exact XS.ifYes X1.here hx rfl (pc0 := 10) (pc' := 63) rfl (hb hby d9_10) rfl ((if0 _ _).trans (flt (by decide : ¬ ((0 : Int32) < (0 : Int32)))).2.2.2) (by decide) (by decide) k) ?_
  refine go (T' := T1) (f' := (mkF m 64 #[.val (.ref a0), .val (.int (0 : Int32)), .val (.int (1 : Int32)), .val (.int (0 : Int32)), .unset] [(.ref a0)])) (by intro t k; exact XS.aloadN X1.here hx rfl (hb hby d9_63) rfl rfl k) ?_
  refine go (T' := T1) (f' := (mkF m 65 #[.val (.ref a0), .val (.int (0 : Int32)), .val (.int (1 : Int32)), .val (.int (0 : Int32)), .unset] [(.int (1 : Int32)), (.ref a0)])) (by intro t k; exact XS.iloadN X1.here hx rfl (hb hby d9_64) rfl k) ?_
  refine go (T' := T1) (f' := (mkF m 66 #[.val (.ref a0), .val (.int (0 : Int32)), .val (.int (1 : Int32)), .val (.int (0 : Int32)), .unset] [(.int (0 : Int32)), (.int (1 : Int32)), (.ref a0)])) (by intro t k; exact XS.iloadN X1.here hx rfl (hb hby d9_65) rfl k) ?_
  obtain ⟨cq2, q2, q2'⟩ := (E).cell
  obtain ⟨_, _, ⟨T2, Lz2, kz2, nz2⟩, -, X2, ⟨Lc2, hQ2, lz2, yz2, zz2⟩, st2⟩ := X1.privateBack hx (y := mmove) hown (mvT hZ (tw hw 53 rfl)) (mvT hZ (tw hw 54 rfl)) (selP (y := mmove) (mvT hZ (tw hw 1 rfl)) (Cond.privateMethod_at (mvP hZ (tw hw 55 rfl) (args := #[]))) (mvT hZ (tw hw 54 rfl)) (by decide)) (Cond.privateMethod_at (mvP hZ (tw hw 55 rfl) (args := #[]))) (mvT hZ (tw hw 56 rfl)) (by decide) (backOf (W := 0) (rm10t11 l Z aw hw [] a0 bh bd bp x0 x1 u1 h0 n0 Z0 ⟨E, Fh, Fd, Fp, Fs, Ft, Ah, Ad, Ap, g0, gh, gd, gp, n0h, n0d, n0p, nhd, nhp, ndp⟩) hZ (tw hw 56 rfl) (tw hw 2 rfl) (by decide) (by decide)) (g := (mkF m 66 #[.val (.ref a0), .val (.int (0 : Int32)), .val (.int (1 : Int32)), .val (.int (0 : Int32)), .unset] [(.int (0 : Int32)), (.int (1 : Int32)), (.ref a0)])) rfl (by rw [hml]; rfl) (Steps.refl _) (a := a0) (by rw [e1]; exact q2) q2' (argsL := [(.int (1 : Int32)), (.int (0 : Int32))]) (rest := []) (lenOf pd_28II29V rfl) rfl (by show 2 * 0 + _ ≤ _; exact Nat.le_of_eq rfl) (hb hby d9_66) (fun _ _ => ⟨rfl, e1, (by decide : 0 + 0 ≤ _), (by decide : 0 + 0 ≤ _)⟩)
  dsimp only [Pt.U, Pt.locs, Pt.cells, Pt.slots] at X2 lz2 yz2 zz2 st2 hQ2
  subst lz2 yz2 zz2
  obtain ⟨rfl, N2q, K2, hD2⟩ := hQ2
  have E2_a0 := Exa.keep E K2
  have Z2 : n0 ≤ T2.heap.size := Nat.le_trans Z0 K2.1
  have KK2 : Keep h0 T2.heap [a0, bh, bd, bp] := (Keep.refl _ _).trans K2 (allS (Or.inl (List.mem_of_getElem? (i := 0) rfl)) (allS (Or.inl (List.mem_of_getElem? (i := 1) rfl)) (allS (Or.inl (List.mem_of_getElem? (i := 2) rfl)) (allS (Or.inl (List.mem_of_getElem? (i := 3) rfl)) all0))))
  obtain ⟨E2, Fh2, Fd2, Fp2, Fs2, Ft2, Ah2, Ad2, Ap2, g02, gh2, gd2, gp2, n0h2, n0d2, n0p2, nhd2, nhp2, ndp2⟩ := hD2
  have N2 := Fr.app N0 N2q
  refine go (fun _ k => st2.trans k) ?_
  show Run _ _ _ _ _ _ _ T2 (mkF m 69 #[.val (.ref a0), .val (.int (0 : Int32)), .val (.int (1 : Int32)), .val (.int (0 : Int32)), .unset] [])
  refine retV X2 hx Bd.returns (hb hby d9_69) hlk (by decide) (by decide) ?_
  show Q9t10 Z a0 bh bd bp x0 x1 u1 h0 n0 _ T2.heap _
  exact ⟨rfl, N2, KK2, ⟨E2, Fh2, Fd2, Fp2, Fs2, Ft2, Ah2, Ad2, Ap2, g02, gh2, gd2, gp2, n0h2, n0d2, n0p2, nhd2, nhp2, ndp2⟩⟩
theorem ef_8t9 (m : MethodId) (x0 : Addr) (x2 : UInt64) : entryFrame m #[(.ref x0), (.int (1 : Int32)), (.double x2)] 5 = mkF m 0 #[.val (.ref x0), .val (.int (1 : Int32)), .val (.double x2), .second, .unset] [] := by first | (simp [entryFrame, mkF, argsToLocals, Value.category]; done) | rfl
def Q8t9 (Z : State) (a0 : Addr) (d2 : UInt64) (bh bd bp : Addr) (x0 x1 : UInt64) (u0 : Int32) (u1 : Int32) (h0 : Heap) (n0 : Nat) (v : Option Value) (h : Heap) (L : List Loc) : Prop := v = none ∧ Fr n0 L ∧ Keep h0 h [a0, bh, bd, bp] ∧ own_st Z n0 h a0 bh bd bp (1 : Int32) u1 (-1 : Int32) (0 : Int32) (1 : Int32) (0 : Int32) x0 d2
set_option maxRecDepth 65536 in
set_option maxHeartbeats 40000000 in
theorem rm8t9 (l : Launch) (Z : State) (aw : Array Value) (hw : ∀ d ∈ tables_1, d.before aw Z = true) (ws : List Jvm.Cond) (a0 : Addr) (d2 : UInt64) (bh bd bp : Addr) (x0 x1 : UInt64) (u0 : Int32) (u1 : Int32) (h0 : Heap) (n0 : Nat) (Z0 : n0 ≤ h0.size) (St : own_st Z n0 h0 a0 bh bd bp u0 u1 (-1 : Int32) (-1 : Int32) (0 : Int32) (0 : Int32) x0 x1) :
    MetFree l moffer (head1 (Jvm.Cond.code moffer prog_64_method_5_code 5 none :: ws) rO3) (fun a U => a = #[(.ref a0), (.int (1 : Int32)), (.double d2)] ∧ Z.Warmed39 U.vm ∧ U.heap = h0) (fun _ _ _ _ _ => True) (fun _ U o U' => ∃ v L, o = .returned v ∧ Q8t9 Z a0 d2 bh bd bp x0 x1 u0 u1 h0 n0 v U'.heap L ∧ FrameEnd U o U' L rO3.cells rO3.slots) := by
  refine MetFree.of_bodySF (plainFor_of_name pn_1) hisR ?_
  intro p e s m args below meth c s₁ Bd hml0 hP hK
  obtain ⟨rfl, hZ, hh⟩ := hP
  have hx := Bd.exec
  have hby := Bd.bytes
  have hml : c.maxLocals = 5 := hml0
  have hown : s.vm.findClass "com/example/wayshard/wayshard/service/VertexQueue" = some m.cls := findClass_of_methodNamed Bd.named
  have hnm := (name_of_methodNamed Bd.named Bd.method).1
  have hlk : meth.locks = false := BodyLoose.notSynchronized Bd
  have X0 : Stand p l e rO3 s m #[(.ref a0), (.int (1 : Int32)), (.double d2)] below meth c s₁ [] 0 0 := Stand.of_body Bd
  have e0 : s₁.heap = h0 := by rw [← hh, Bd.state]; rfl
  have N0 := Fr.nil n0
  show Run p e s below (Q8t9 Z a0 d2 bh bd bp x0 x1 u0 u1 h0 n0) rO3.cells rO3.slots s₁ (entryFrame m #[(.ref a0), (.int (1 : Int32)), (.double d2)] 5)
  rw [ef_8t9]
  obtain ⟨E, Fh, Fd, Fp, Fs, Ft, Ah, Ad, Ap, g0, gh, gd, gp, n0h, n0d, n0p, nhd, nhp, ndp⟩ := St
  show Run _ _ _ _ _ _ _ s₁ (mkF m 0 #[.val (.ref a0), .val (.int (1 : Int32)), .val (.double d2), .second, .unset] [])
  refine go (T' := s₁) (f' := (mkF m 1 #[.val (.ref a0), .val (.int (1 : Int32)), .val (.double d2), .second, .unset] [(.ref a0)])) (by intro t k; exact XS.aloadN X0.here hx rfl (hb hby d8_0) rfl rfl k) ?_
  obtain ⟨T1, X1, e1, st1⟩ := getF X0 hx hZ hown (host := "") (Or.inl (tw hw 15 rfl)) Via.refl e0 Fp (g := (mkF m 1 #[.val (.ref a0), .val (.int (1 : Int32)), .val (.double d2), .second, .unset] [(.ref a0)])) rfl rfl (hb hby d8_1)
  refine go st1 ?_
  show Run _ _ _ _ _ _ _ T1 (mkF m 4 #[.val (.ref a0), .val (.int (1 : Int32)), .val (.double d2), .second, .unset] [(.ref bp)])
  refine go (T' := T1) (f' := (mkF m 5 #[.val (.ref a0), .val (.int (1 : Int32)), .val (.double d2), .second, .unset] [(.int (1 : Int32)), (.ref bp)])) (by intro t k; exact XS.iloadN X1.here hx rfl (hb hby d8_4) rfl k) ?_
  refine go (T' := T1) (f' := (mkF m 6 #[.val (.ref a0), .val (.int (1 : Int32)), .val (.double d2), .second, .unset] [(.int (-1 : Int32))])) (by intro t k; exact ldI X1 hx hZ e1 Ap (j := (1 : Int32)) (v := (.int (-1 : Int32))) (by decide) rfl (g := (mkF m 5 #[.val (.ref a0), .val (.int (1 : Int32)), .val (.double d2), .second, .unset] [(.int (1 : Int32)), (.ref bp)])) rfl rfl (hb hby d8_5) _ k) ?_
  refine go (T' := T1) (f' := (mkF m 8 #[.val (.ref a0), .val (.int (1 : Int32)), .val (.double d2), .second, .val (.int (-1 : Int32))] [])) (by intro t k; exact XS.istore X1.here hx rfl (hb hby d8_6) rfl (l' := #[.val (.ref a0), .val (.int (1 : Int32)), .val (.double d2), .second, .val (.int (-1 : Int32))]) rfl k) ?_
  refine go (T' := T1) (f' := (mkF m 9 #[.val (.ref a0), .val (.int (1 : Int32)), .val (.double d2), .second, .val (.int (-1 : Int32))] [(.ref a0)])) (by intro t k; exact XS.aloadN X1.here hx rfl (hb hby d8_8) rfl rfl k) ?_
  obtain ⟨T2, X2, e2, st2⟩ := getF X1 hx hZ hown (host := "") (Or.inl (tw hw 13 rfl)) Via.refl e1 Fd (g := (mkF m 9 #[.val (.ref a0), .val (.int (1 : Int32)), .val (.double d2), .second, .val (.int (-1 : Int32))] [(.ref a0)])) rfl rfl (hb hby d8_9)
  refine go st2 ?_
  show Run _ _ _ _ _ _ _ T2 (mkF m 12 #[.val (.ref a0), .val (.int (1 : Int32)), .val (.double d2), .second, .val (.int (-1 : Int32))] [(.ref bd)])
  refine go (T' := T2) (f' := (mkF m 13 #[.val (.ref a0), .val (.int (1 : Int32)), .val (.double d2), .second, .val (.int (-1 : Int32))] [(.int (1 : Int32)), (.ref bd)])) (by intro t k; exact XS.iloadN X2.here hx rfl (hb hby d8_12) rfl k) ?_
  refine go (T' := T2) (f' := (mkF m 14 #[.val (.ref a0), .val (.int (1 : Int32)), .val (.double d2), .second, .val (.int (-1 : Int32))] [(.double d2), (.int (1 : Int32)), (.ref bd)])) (by intro t k; exact XS.dloadN X2.here hx rfl (hb hby d8_13) rfl k) ?_
  obtain ⟨cl3, Ar3, hin3⟩ := Ary.st (j := (1 : Int32)) Ad (by decide) (by show (1 : Int32).toNatClampNeg < 2; decide)
  obtain ⟨T3, h3, X3, e3, W3, st3⟩ := stD X2 hx hZ e2 Ar3 (j := (1 : Int32)) hin3 (g := (mkF m 14 #[.val (.ref a0), .val (.int (1 : Int32)), .val (.double d2), .second, .val (.int (-1 : Int32))] [(.double d2), (.int (1 : Int32)), (.ref bd)])) rfl rfl (hb hby d8_14)
  have K3 : Keep h0 h3 [bd] := Keep.of_wr W3
  have V3 : Ary Z h3 bd .double [(.double x0), (.double d2)] := Ary.set Ad W3 rfl
  have N3 := Fr.snoc X3 N0 gd
  have E3_a0 := Exa.keep E K3
  have F3_a0_heap := Fld.keep Fh K3 (ninS n0d nin0)
  have F3_a0_priorities := Fld.keep Fd K3 (ninS n0d nin0)
  have F3_a0_places := Fld.keep Fp K3 (ninS n0d nin0)
  have F3_a0_size := Fld.keep Fs K3 (ninS n0d nin0)
  have F3_a0_taken := Fld.keep Ft K3 (ninS n0d nin0)
  have A3_bh := Ary.keep Ah K3 (ninS nhd nin0)
  have A3_bp := Ary.keep Ap K3 (ninS (Ne.symm ndp) nin0)
  have Z3 : n0 ≤ h3.size := Nat.le_trans Z0 K3.1
  have KK3 : Keep h0 h3 [a0, bh, bd, bp] := (Keep.refl _ _).trans K3 (allS (Or.inl (List.mem_of_getElem? (i := 2) rfl)) all0)
  refine go st3 ?_
  show Run _ _ _ _ _ _ _ T3 (mkF m 15 #[.val (.ref a0), .val (.int (1 : Int32)), .val (.double d2), .second, .val (.int (-1 : Int32))] [])
  refine go (T' := T3) (f' := (mkF m 17 #[.val (.ref a0), .val (.int (1 : Int32)), .val (.double d2), .second, .val (.int (-1 : Int32))] [(.int (-1 : Int32))])) (by intro t k; exact XS.iload X3.here hx rfl (hb hby d8_15) rfl k) ?_
  refine go (T' := T3) (f' := (mkF m 18 #[.val (.ref a0), .val (.int (1 : Int32)), .val (.double d2), .second, .val (.int (-1 : Int32))] [(.int (-1 : Int32)), (.int (-1 : Int32))])) (by intro t k; exact XS.iconst X3.here hx rfl (hb hby d8_17) k) ?_
  refine go (T' := T3) (f' := (mkF m 21 #[.val (.ref a0), .val (.int (1 : Int32)), .val (.double d2), .second, .val (.int (-1 : Int32))] [])) (by intro t k; exact XS.icmpNo X3.here hx rfl (hb hby d8_18) rfl (teq (rfl : (-1 : Int32) = (-1 : Int32))).2 k) ?_
  refine go (T' := T3) (f' := (mkF m 22 #[.val (.ref a0), .val (.int (1 : Int32)), .val (.double d2), .second, .val (.int (-1 : Int32))] [(.ref a0)])) (by intro t k; exact XS.aloadN X3.here hx rfl (hb hby d8_21) rfl rfl k) ?_
  obtain ⟨T4, X4, e4, st4⟩ := getF X3 hx hZ hown (host := "") (Or.inl (tw hw 10 rfl)) Via.refl e3 F3_a0_heap (g := (mkF m 22 #[.val (.ref a0), .val (.int (1 : Int32)), .val (.double d2), .second, .val (.int (-1 : Int32))] [(.ref a0)])) rfl rfl (hb hby d8_22)
  refine go st4 ?_
  show Run _ _ _ _ _ _ _ T4 (mkF m 25 #[.val (.ref a0), .val (.int (1 : Int32)), .val (.double d2), .second, .val (.int (-1 : Int32))] [(.ref bh)])
  refine go (T' := T4) (f' := (mkF m 26 #[.val (.ref a0), .val (.int (1 : Int32)), .val (.double d2), .second, .val (.int (-1 : Int32))] [(.ref a0), (.ref bh)])) (by intro t k; exact XS.aloadN X4.here hx rfl (hb hby d8_25) rfl rfl k) ?_
  obtain ⟨T5, X5, e5, st5⟩ := getF X4 hx hZ hown (host := "") (Or.inl (tw hw 30 rfl)) Via.refl e4 F3_a0_size (g := (mkF m 26 #[.val (.ref a0), .val (.int (1 : Int32)), .val (.double d2), .second, .val (.int (-1 : Int32))] [(.ref a0), (.ref bh)])) rfl rfl (hb hby d8_26)
  refine go st5 ?_
  show Run _ _ _ _ _ _ _ T5 (mkF m 29 #[.val (.ref a0), .val (.int (1 : Int32)), .val (.double d2), .second, .val (.int (-1 : Int32))] [(.int (0 : Int32)), (.ref bh)])
  refine go (T' := T5) (f' := (mkF m 30 #[.val (.ref a0), .val (.int (1 : Int32)), .val (.double d2), .second, .val (.int (-1 : Int32))] [(.int (1 : Int32)), (.int (0 : Int32)), (.ref bh)])) (by intro t k; exact XS.iloadN X5.here hx rfl (hb hby d8_29) rfl k) ?_
  obtain ⟨cl6, Ar6, hin6⟩ := Ary.st (j := (0 : Int32)) A3_bh (by decide) (by show (0 : Int32).toNatClampNeg < 2; decide)
  obtain ⟨T6, h6, X6, e6, W6, st6⟩ := stI X5 hx hZ e5 Ar6 (j := (0 : Int32)) hin6 (g := (mkF m 30 #[.val (.ref a0), .val (.int (1 : Int32)), .val (.double d2), .second, .val (.int (-1 : Int32))] [(.int (1 : Int32)), (.int (0 : Int32)), (.ref bh)])) rfl rfl (hb hby d8_30)
  have K6 : Keep h3 h6 [bh] := Keep.of_wr W6
  have V6 : Ary Z h6 bh .int [(.int (1 : Int32)), (.int u1)] := Ary.set A3_bh W6 rfl
  have N6 := Fr.snoc X6 N3 gh
  have E6_a0 := Exa.keep E3_a0 K6
  have F6_a0_heap := Fld.keep F3_a0_heap K6 (ninS n0h nin0)
  have F6_a0_priorities := Fld.keep F3_a0_priorities K6 (ninS n0h nin0)
  have F6_a0_places := Fld.keep F3_a0_places K6 (ninS n0h nin0)
  have F6_a0_size := Fld.keep F3_a0_size K6 (ninS n0h nin0)
  have F6_a0_taken := Fld.keep F3_a0_taken K6 (ninS n0h nin0)
  have A6_bd := Ary.keep V3 K6 (ninS (Ne.symm nhd) nin0)
  have A6_bp := Ary.keep A3_bp K6 (ninS (Ne.symm nhp) nin0)
  have Z6 : n0 ≤ h6.size := Nat.le_trans Z3 K6.1
  have KK6 : Keep h0 h6 [a0, bh, bd, bp] := KK3.trans K6 (allS (Or.inl (List.mem_of_getElem? (i := 1) rfl)) all0)
  refine go st6 ?_
  show Run _ _ _ _ _ _ _ T6 (mkF m 31 #[.val (.ref a0), .val (.int (1 : Int32)), .val (.double d2), .second, .val (.int (-1 : Int32))] [])
  refine go (T' := T6) (f' := (mkF m 32 #[.val (.ref a0), .val (.int (1 : Int32)), .val (.double d2), .second, .val (.int (-1 : Int32))] [(.ref a0)])) (by intro t k; exact XS.aloadN X6.here hx rfl (hb hby d8_31) rfl rfl k) ?_
  obtain ⟨T7, X7, e7, st7⟩ := getF X6 hx hZ hown (host := "") (Or.inl (tw hw 15 rfl)) Via.refl e6 F6_a0_places (g := (mkF m 32 #[.val (.ref a0), .val (.int (1 : Int32)), .val (.double d2), .second, .val (.int (-1 : Int32))] [(.ref a0)])) rfl rfl (hb hby d8_32)
  refine go st7 ?_
  show Run _ _ _ _ _ _ _ T7 (mkF m 35 #[.val (.ref a0), .val (.int (1 : Int32)), .val (.double d2), .second, .val (.int (-1 : Int32))] [(.ref bp)])
  refine go (T' := T7) (f' := (mkF m 36 #[.val (.ref a0), .val (.int (1 : Int32)), .val (.double d2), .second, .val (.int (-1 : Int32))] [(.int (1 : Int32)), (.ref bp)])) (by intro t k; exact XS.iloadN X7.here hx rfl (hb hby d8_35) rfl k) ?_
  refine go (T' := T7) (f' := (mkF m 37 #[.val (.ref a0), .val (.int (1 : Int32)), .val (.double d2), .second, .val (.int (-1 : Int32))] [(.ref a0), (.int (1 : Int32)), (.ref bp)])) (by intro t k; exact XS.aloadN X7.here hx rfl (hb hby d8_36) rfl rfl k) ?_
  obtain ⟨T8, X8, e8, st8⟩ := getF X7 hx hZ hown (host := "") (Or.inl (tw hw 30 rfl)) Via.refl e7 F6_a0_size (g := (mkF m 37 #[.val (.ref a0), .val (.int (1 : Int32)), .val (.double d2), .second, .val (.int (-1 : Int32))] [(.ref a0), (.int (1 : Int32)), (.ref bp)])) rfl rfl (hb hby d8_37)
  refine go st8 ?_
  show Run _ _ _ _ _ _ _ T8 (mkF m 40 #[.val (.ref a0), .val (.int (1 : Int32)), .val (.double d2), .second, .val (.int (-1 : Int32))] [(.int (0 : Int32)), (.int (1 : Int32)), (.ref bp)])
  obtain ⟨cl9, Ar9, hin9⟩ := Ary.st (j := (1 : Int32)) A6_bp (by decide) (by show (1 : Int32).toNatClampNeg < 2; decide)
  obtain ⟨T9, h9, X9, e9, W9, st9⟩ := stI X8 hx hZ e8 Ar9 (j := (1 : Int32)) hin9 (g := (mkF m 40 #[.val (.ref a0), .val (.int (1 : Int32)), .val (.double d2), .second, .val (.int (-1 : Int32))] [(.int (0 : Int32)), (.int (1 : Int32)), (.ref bp)])) rfl rfl (hb hby d8_40)
  have K9 : Keep h6 h9 [bp] := Keep.of_wr W9
  have V9 : Ary Z h9 bp .int [(.int (-1 : Int32)), (.int (0 : Int32))] := Ary.set A6_bp W9 rfl
  have N9 := Fr.snoc X9 N6 gp
  have E9_a0 := Exa.keep E6_a0 K9
  have F9_a0_heap := Fld.keep F6_a0_heap K9 (ninS n0p nin0)
  have F9_a0_priorities := Fld.keep F6_a0_priorities K9 (ninS n0p nin0)
  have F9_a0_places := Fld.keep F6_a0_places K9 (ninS n0p nin0)
  have F9_a0_size := Fld.keep F6_a0_size K9 (ninS n0p nin0)
  have F9_a0_taken := Fld.keep F6_a0_taken K9 (ninS n0p nin0)
  have A9_bh := Ary.keep V6 K9 (ninS nhp nin0)
  have A9_bd := Ary.keep A6_bd K9 (ninS ndp nin0)
  have Z9 : n0 ≤ h9.size := Nat.le_trans Z6 K9.1
  have KK9 : Keep h0 h9 [a0, bh, bd, bp] := KK6.trans K9 (allS (Or.inl (List.mem_of_getElem? (i := 3) rfl)) all0)
  refine go st9 ?_
  show Run _ _ _ _ _ _ _ T9 (mkF m 41 #[.val (.ref a0), .val (.int (1 : Int32)), .val (.double d2), .second, .val (.int (-1 : Int32))] [])
  refine go (T' := T9) (f' := (mkF m 42 #[.val (.ref a0), .val (.int (1 : Int32)), .val (.double d2), .second, .val (.int (-1 : Int32))] [(.ref a0)])) (by intro t k; exact XS.aloadN X9.here hx rfl (hb hby d8_41) rfl rfl k) ?_
  refine go (T' := T9) (f' := (mkF m 43 #[.val (.ref a0), .val (.int (1 : Int32)), .val (.double d2), .second, .val (.int (-1 : Int32))] [(.ref a0), (.ref a0)])) (by intro t k; exact XS.aloadN X9.here hx rfl (hb hby d8_42) rfl rfl k) ?_
  refine go (T' := T9) (f' := (mkF m 44 #[.val (.ref a0), .val (.int (1 : Int32)), .val (.double d2), .second, .val (.int (-1 : Int32))] [(.ref a0), (.ref a0), (.ref a0)])) (by intro t k; exact XS.dup X9.here hx rfl (hb hby d8_43) rfl rfl k) ?_
  obtain ⟨T10, X10, e10, st10⟩ := getF X9 hx hZ hown (host := "") (Or.inl (tw hw 30 rfl)) Via.refl e9 F9_a0_size (g := (mkF m 44 #[.val (.ref a0), .val (.int (1 : Int32)), .val (.double d2), .second, .val (.int (-1 : Int32))] [(.ref a0), (.ref a0), (.ref a0)])) rfl rfl (hb hby d8_44)
  refine go st10 ?_
  show Run _ _ _ _ _ _ _ T10 (mkF m 47 #[.val (.ref a0), .val (.int (1 : Int32)), .val (.double d2), .second, .val (.int (-1 : Int32))] [(.int (0 : Int32)), (.ref a0), (.ref a0)])
  refine go (T' := T10) (f' := (mkF m 48 #[.val (.ref a0), .val (.int (1 : Int32)), .val (.double d2), .second, .val (.int (-1 : Int32))] [(.int (0 : Int32)), (.ref a0), (.int (0 : Int32)), (.ref a0)])) (by intro t k; exact XS.dupX1 X10.here hx rfl (hb hby d8_47) rfl rfl rfl k) ?_
  refine go (T' := T10) (f' := (mkF m 49 #[.val (.ref a0), .val (.int (1 : Int32)), .val (.double d2), .second, .val (.int (-1 : Int32))] [(.int (1 : Int32)), (.int (0 : Int32)), (.ref a0), (.int (0 : Int32)), (.ref a0)])) (by intro t k; exact XS.iconst X10.here hx rfl (hb hby d8_48) k) ?_
  refine go (T' := T10) (f' := (mkF m 50 #[.val (.ref a0), .val (.int (1 : Int32)), .val (.double d2), .second, .val (.int (-1 : Int32))] [(.int (1 : Int32)), (.ref a0), (.int (0 : Int32)), (.ref a0)])) (by intro t k; exact XS.iadd X10.here hx rfl (hb hby d8_49) rfl k) ?_
  obtain ⟨T11, h11, X11, e11, W11, st11⟩ := putF X10 hx hZ hown (host := "") (Or.inl (tw hw 30 rfl)) Via.refl e10 F9_a0_size E9_a0 (Or.inl (tw hw 31 rfl)) (tw hw 1 rfl) (ty := .int) (by decide) rfl rfl (g := (mkF m 50 #[.val (.ref a0), .val (.int (1 : Int32)), .val (.double d2), .second, .val (.int (-1 : Int32))] [(.int (1 : Int32)), (.ref a0), (.int (0 : Int32)), (.ref a0)])) rfl rfl (hb hby d8_50)
  have K11 : Keep h9 h11 [a0] := Keep.of_wr W11
  have F11_a0_heap := Fld.other W11 F9_a0_heap (Or.inr (slot_ne (Or.inr (tw hw 11 rfl)) (Or.inl (tw hw 31 rfl)) (by decide) (t := (.array .int)) (t' := .int) (by decide) (by decide)))
  have F11_a0_priorities := Fld.other W11 F9_a0_priorities (Or.inr (slot_ne (Or.inr (tw hw 14 rfl)) (Or.inl (tw hw 31 rfl)) (by decide) (t := (.array .double)) (t' := .int) (by decide) (by decide)))
  have F11_a0_places := Fld.other W11 F9_a0_places (Or.inr (slot_ne (Or.inr (tw hw 16 rfl)) (Or.inl (tw hw 31 rfl)) (by decide) (t := (.array .int)) (t' := .int) (by decide) (by decide)))
  have F11_a0_size : Fld Z h11 a0 "com/example/wayshard/wayshard/service/VertexQueue" "size" "I" (.int (1 : Int32)) := F9_a0_size.same W11
  have F11_a0_taken := Fld.other W11 F9_a0_taken (Or.inr (slot_ne (Or.inl (tw hw 33 rfl)) (Or.inl (tw hw 31 rfl)) (by decide) (t := .int) (t' := .int) (by decide) (by decide)))
  have N11 := Fr.snoc X11 N9 g0
  have E11_a0 := Exa.keep E9_a0 K11
  have A11_bh := Ary.keep A9_bh K11 (ninS (Ne.symm n0h) nin0)
  have A11_bd := Ary.keep A9_bd K11 (ninS (Ne.symm n0d) nin0)
  have A11_bp := Ary.keep V9 K11 (ninS (Ne.symm n0p) nin0)
  have Z11 : n0 ≤ h11.size := Nat.le_trans Z9 K11.1
  have KK11 : Keep h0 h11 [a0, bh, bd, bp] := KK9.trans K11 (allS (Or.inl (List.mem_of_getElem? (i := 0) rfl)) all0)
  refine go st11 ?_
  show Run _ _ _ _ _ _ _ T11 (mkF m 53 #[.val (.ref a0), .val (.int (1 : Int32)), .val (.double d2), .second, .val (.int (-1 : Int32))] [(.int (0 : Int32)), (.ref a0)])
  obtain ⟨cq12, q12, q12'⟩ := (E11_a0).cell
  obtain ⟨_, _, ⟨T12, Lz12, kz12, nz12⟩, -, X12, ⟨Lc12, hQ12, lz12, yz12, zz12⟩, st12⟩ := X11.privateBack hx (y := msiftUp) hown (mvT hZ (tw hw 49 rfl)) (mvT hZ (tw hw 50 rfl)) (selP (y := msiftUp) (mvT hZ (tw hw 1 rfl)) (Cond.privateMethod_at (mvP hZ (tw hw 51 rfl) (args := #[]))) (mvT hZ (tw hw 50 rfl)) (by decide)) (Cond.privateMethod_at (mvP hZ (tw hw 51 rfl) (args := #[]))) (mvT hZ (tw hw 52 rfl)) (by decide) (backOf (W := 0) (rm9t10 l Z aw hw [] a0 bh bd bp x0 d2 u1 h11 n0 Z11 ⟨E11_a0, F11_a0_heap, F11_a0_priorities, F11_a0_places, F11_a0_size, F11_a0_taken, A11_bh, A11_bd, A11_bp, g0, gh, gd, gp, n0h, n0d, n0p, nhd, nhp, ndp⟩) hZ (tw hw 52 rfl) (tw hw 2 rfl) (by decide) (by decide)) (g := (mkF m 53 #[.val (.ref a0), .val (.int (1 : Int32)), .val (.double d2), .second, .val (.int (-1 : Int32))] [(.int (0 : Int32)), (.ref a0)])) rfl (by rw [hml]; rfl) (Steps.refl _) (a := a0) (by rw [e11]; exact q12) q12' (argsL := [(.int (0 : Int32))]) (rest := []) (lenOf pd_28I29V rfl) rfl (by show 2 * 0 + _ ≤ _; exact Nat.le_of_eq rfl) (hb hby d8_53) (fun _ _ => ⟨rfl, e11, (by decide : 0 + 0 ≤ _), (by decide : 0 + 0 ≤ _)⟩)
  dsimp only [Pt.U, Pt.locs, Pt.cells, Pt.slots] at X12 lz12 yz12 zz12 st12 hQ12
  subst lz12 yz12 zz12
  obtain ⟨rfl, N12q, K12, hD12⟩ := hQ12
  have E12_a0 := Exa.keep E11_a0 K12
  have Z12 : n0 ≤ T12.heap.size := Nat.le_trans Z11 K12.1
  have KK12 : Keep h0 T12.heap [a0, bh, bd, bp] := KK11.trans K12 (allS (Or.inl (List.mem_of_getElem? (i := 0) rfl)) (allS (Or.inl (List.mem_of_getElem? (i := 1) rfl)) (allS (Or.inl (List.mem_of_getElem? (i := 2) rfl)) (allS (Or.inl (List.mem_of_getElem? (i := 3) rfl)) all0))))
  obtain ⟨E12, Fh12, Fd12, Fp12, Fs12, Ft12, Ah12, Ad12, Ap12, g012, gh12, gd12, gp12, n0h12, n0d12, n0p12, nhd12, nhp12, ndp12⟩ := hD12
  have N12 := Fr.app N11 N12q
  refine go (fun _ k => st12.trans k) ?_
  show Run _ _ _ _ _ _ _ T12 (mkF m 56 #[.val (.ref a0), .val (.int (1 : Int32)), .val (.double d2), .second, .val (.int (-1 : Int32))] [])
  refine go (T' := T12) (f' := (mkF m 65 #[.val (.ref a0), .val (.int (1 : Int32)), .val (.double d2), .second, .val (.int (-1 : Int32))] [])) (by intro t k; exact XS.goto X12.here hx rfl (pc0 := 56) (pc' := 65) rfl (hb hby d8_56) (by decide) (by decide) k) ?_
  refine retV X12 hx Bd.returns (hb hby d8_65) hlk (by decide) (by decide) ?_
  show Q8t9 Z a0 d2 bh bd bp x0 x1 u0 u1 h0 n0 _ T12.heap _
  exact ⟨rfl, N12, KK12, ⟨E12, Fh12, Fd12, Fp12, Fs12, Ft12, Ah12, Ad12, Ap12, g012, gh12, gd12, gp12, n0h12, n0d12, n0p12, nhd12, nhp12, ndp12⟩⟩
theorem ef_6t12 (m : MethodId) (x0 : Addr) : entryFrame m #[(.ref x0)] 1 = mkF m 0 #[.val (.ref x0)] [] := by first | (simp [entryFrame, mkF, argsToLocals, Value.category]; done) | rfl
def Q6t12 (Z : State) (a0 : Addr) (bh bd bp : Addr) (x0 x1 : UInt64) (u1 : Int32) (h0 : Heap) (n0 : Nat) (v : Option Value) (h : Heap) (L : List Loc) : Prop := v = some (.int (0 : Int32)) ∧ Fr n0 L ∧ Keep h0 h [a0, bh, bd, bp] ∧ own_st Z n0 h a0 bh bd bp (1 : Int32) u1 (-1 : Int32) (0 : Int32) (1 : Int32) (0 : Int32) x0 x1
set_option maxRecDepth 65536 in
set_option maxHeartbeats 40000000 in
theorem rm6t12 (l : Launch) (Z : State) (aw : Array Value) (hw : ∀ d ∈ tables_1, d.before aw Z = true) (ws : List Jvm.Cond) (a0 : Addr) (bh bd bp : Addr) (x0 x1 : UInt64) (u1 : Int32) (h0 : Heap) (n0 : Nat) (Z0 : n0 ≤ h0.size) (St : own_st Z n0 h0 a0 bh bd bp (1 : Int32) u1 (-1 : Int32) (0 : Int32) (1 : Int32) (0 : Int32) x0 x1) :
    MetFree l misEmpty (head1 (Jvm.Cond.code misEmpty prog_64_method_2_code 1 (some .boolean) :: ws) rO0) (fun a U => a = #[(.ref a0)] ∧ Z.Warmed39 U.vm ∧ U.heap = h0) (fun _ _ _ _ _ => True) (fun _ U o U' => ∃ v L, o = .returned v ∧ Q6t12 Z a0 bh bd bp x0 x1 u1 h0 n0 v U'.heap L ∧ FrameEnd U o U' L rO0.cells rO0.slots) := by
  refine MetFree.of_bodySF (plainFor_of_name pn_1) hisR ?_
  intro p e s m args below meth c s₁ Bd hml0 hP hK
  obtain ⟨rfl, hZ, hh⟩ := hP
  have hx := Bd.exec
  have hby := Bd.bytes
  have hml : c.maxLocals = 1 := hml0
  have hown : s.vm.findClass "com/example/wayshard/wayshard/service/VertexQueue" = some m.cls := findClass_of_methodNamed Bd.named
  have hnm := (name_of_methodNamed Bd.named Bd.method).1
  have hlk : meth.locks = false := BodyLoose.notSynchronized Bd
  have X0 : Stand p l e rO0 s m #[(.ref a0)] below meth c s₁ [] 0 0 := Stand.of_body Bd
  have e0 : s₁.heap = h0 := by rw [← hh, Bd.state]; rfl
  have N0 := Fr.nil n0
  show Run p e s below (Q6t12 Z a0 bh bd bp x0 x1 u1 h0 n0) rO0.cells rO0.slots s₁ (entryFrame m #[(.ref a0)] 1)
  rw [ef_6t12]
  obtain ⟨E, Fh, Fd, Fp, Fs, Ft, Ah, Ad, Ap, g0, gh, gd, gp, n0h, n0d, n0p, nhd, nhp, ndp⟩ := St
  show Run _ _ _ _ _ _ _ s₁ (mkF m 0 #[.val (.ref a0)] [])
  refine go (T' := s₁) (f' := (mkF m 1 #[.val (.ref a0)] [(.ref a0)])) (by intro t k; exact XS.aloadN X0.here hx rfl (hb hby d6_0) rfl rfl k) ?_
  obtain ⟨T1, X1, e1, st1⟩ := getF X0 hx hZ hown (host := "") (Or.inl (tw hw 30 rfl)) Via.refl e0 Fs (g := (mkF m 1 #[.val (.ref a0)] [(.ref a0)])) rfl rfl (hb hby d6_1)
  refine go st1 ?_
  show Run _ _ _ _ _ _ _ T1 (mkF m 4 #[.val (.ref a0)] [(.int (1 : Int32))])
  refine go (T' := T1) (f' := (mkF m 11 #[.val (.ref a0)] [])) (by intro t k; exact XS.ifYes X1.here hx rfl (pc0 := 4) (pc' := 11) rfl (hb hby d6_4) rfl ((if0 _ _).trans (feq (by decide : ¬ ((1 : Int32) = (0 : Int32)))).2) (by decide) (by decide) k) ?_
  refine go (T' := T1) (f' := (mkF m 12 #[.val (.ref a0)] [(.int (0 : Int32))])) (by intro t k; exact XS.iconst X1.here hx rfl (hb hby d6_11) k) ?_
  refine retZ X1 hx (t := .boolean) Bd.returns (by simp) (hb hby d6_12) hlk (by decide) (by decide) ?_
  show Q6t12 Z a0 bh bd bp x0 x1 u1 h0 n0 _ T1.heap _
  rw [e1]
  have hv' : (nar .boolean (0 : Int32)) = (0 : Int32) := by
    rfl
  have hv : (some (.int (nar .boolean (0 : Int32))) : Option Value) = some (.int (0 : Int32)) := congrArg (fun z => (some (.int z) : Option Value)) hv'
  exact ⟨hv, N0, (Keep.refl _ _), ⟨E, Fh, Fd, Fp, Fs, Ft, Ah, Ad, Ap, g0, gh, gd, gp, n0h, n0d, n0p, nhd, nhp, ndp⟩⟩
theorem ef_11t13 (m : MethodId) (x0 : Addr) : entryFrame m #[(.ref x0)] 2 = mkF m 0 #[.val (.ref x0), .unset] [] := by first | (simp [entryFrame, mkF, argsToLocals, Value.category]; done) | rfl
def Q11t13 (Z : State) (a0 : Addr) (bh bd bp : Addr) (x0 x1 : UInt64) (u1 : Int32) (h0 : Heap) (n0 : Nat) (v : Option Value) (h : Heap) (L : List Loc) : Prop := v = some (.int (1 : Int32)) ∧ Fr n0 L ∧ Keep h0 h [a0, bh, bd, bp] ∧ own_st Z n0 h a0 bh bd bp (1 : Int32) (1 : Int32) (-1 : Int32) (-2 : Int32) (0 : Int32) (1 : Int32) x0 x1
set_option maxRecDepth 65536 in
set_option maxHeartbeats 40000000 in
theorem rm11t13 (l : Launch) (Z : State) (aw : Array Value) (hw : ∀ d ∈ tables_1, d.before aw Z = true) (ws : List Jvm.Cond) (a0 : Addr) (bh bd bp : Addr) (x0 x1 : UInt64) (u1 : Int32) (h0 : Heap) (n0 : Nat) (Z0 : n0 ≤ h0.size) (St : own_st Z n0 h0 a0 bh bd bp (1 : Int32) u1 (-1 : Int32) (0 : Int32) (1 : Int32) (0 : Int32) x0 x1) :
    MetFree l mpoll (head1 (Jvm.Cond.code mpoll prog_64_method_6_code 2 (some .int) :: ws) rO0) (fun a U => a = #[(.ref a0)] ∧ Z.Warmed39 U.vm ∧ U.heap = h0) (fun _ _ _ _ _ => True) (fun _ U o U' => ∃ v L, o = .returned v ∧ Q11t13 Z a0 bh bd bp x0 x1 u1 h0 n0 v U'.heap L ∧ FrameEnd U o U' L rO0.cells rO0.slots) := by
  refine MetFree.of_bodySF (plainFor_of_name pn_1) hisR ?_
  intro p e s m args below meth c s₁ Bd hml0 hP hK
  obtain ⟨rfl, hZ, hh⟩ := hP
  have hx := Bd.exec
  have hby := Bd.bytes
  have hml : c.maxLocals = 2 := hml0
  have hown : s.vm.findClass "com/example/wayshard/wayshard/service/VertexQueue" = some m.cls := findClass_of_methodNamed Bd.named
  have hnm := (name_of_methodNamed Bd.named Bd.method).1
  have hlk : meth.locks = false := BodyLoose.notSynchronized Bd
  have X0 : Stand p l e rO0 s m #[(.ref a0)] below meth c s₁ [] 0 0 := Stand.of_body Bd
  have e0 : s₁.heap = h0 := by rw [← hh, Bd.state]; rfl
  have N0 := Fr.nil n0
  show Run p e s below (Q11t13 Z a0 bh bd bp x0 x1 u1 h0 n0) rO0.cells rO0.slots s₁ (entryFrame m #[(.ref a0)] 2)
  rw [ef_11t13]
  obtain ⟨E, Fh, Fd, Fp, Fs, Ft, Ah, Ad, Ap, g0, gh, gd, gp, n0h, n0d, n0p, nhd, nhp, ndp⟩ := St
  show Run _ _ _ _ _ _ _ s₁ (mkF m 0 #[.val (.ref a0), .unset] [])
  refine go (T' := s₁) (f' := (mkF m 1 #[.val (.ref a0), .unset] [(.ref a0)])) (by intro t k; exact XS.aloadN X0.here hx rfl (hb hby d11_0) rfl rfl k) ?_
  obtain ⟨T1, X1, e1, st1⟩ := getF X0 hx hZ hown (host := "") (Or.inl (tw hw 30 rfl)) Via.refl e0 Fs (g := (mkF m 1 #[.val (.ref a0), .unset] [(.ref a0)])) rfl rfl (hb hby d11_1)
  refine go st1 ?_
  show Run _ _ _ _ _ _ _ T1 (mkF m 4 #[.val (.ref a0), .unset] [(.int (1 : Int32))])
  refine go (T' := T1) (f' := (mkF m 15 #[.val (.ref a0), .unset] [])) (by intro t k; exact XS.ifYes X1.here hx rfl (pc0 := 4) (pc' := 15) rfl (hb hby d11_4) rfl ((if0 _ _).trans (feq (by decide : ¬ ((1 : Int32) = (0 : Int32)))).2) (by decide) (by decide) k) ?_
  refine go (T' := T1) (f' := (mkF m 16 #[.val (.ref a0), .unset] [(.ref a0)])) (by intro t k; exact XS.aloadN X1.here hx rfl (hb hby d11_15) rfl rfl k) ?_
  obtain ⟨T2, X2, e2, st2⟩ := getF X1 hx hZ hown (host := "") (Or.inl (tw hw 10 rfl)) Via.refl e1 Fh (g := (mkF m 16 #[.val (.ref a0), .unset] [(.ref a0)])) rfl rfl (hb hby d11_16)
  refine go st2 ?_
  show Run _ _ _ _ _ _ _ T2 (mkF m 19 #[.val (.ref a0), .unset] [(.ref bh)])
  refine go (T' := T2) (f' := (mkF m 20 #[.val (.ref a0), .unset] [(.int (0 : Int32)), (.ref bh)])) (by intro t k; exact XS.iconst X2.here hx rfl (hb hby d11_19) k) ?_
  refine go (T' := T2) (f' := (mkF m 21 #[.val (.ref a0), .unset] [(.int (1 : Int32))])) (by intro t k; exact ldI X2 hx hZ e2 Ah (j := (0 : Int32)) (v := (.int (1 : Int32))) (by decide) rfl (g := (mkF m 20 #[.val (.ref a0), .unset] [(.int (0 : Int32)), (.ref bh)])) rfl rfl (hb hby d11_20) _ k) ?_
  refine go (T' := T2) (f' := (mkF m 22 #[.val (.ref a0), .val (.int (1 : Int32))] [])) (by intro t k; exact XS.istoreN X2.here hx rfl (hb hby d11_21) rfl (l' := #[.val (.ref a0), .val (.int (1 : Int32))]) rfl k) ?_
  refine go (T' := T2) (f' := (mkF m 23 #[.val (.ref a0), .val (.int (1 : Int32))] [(.ref a0)])) (by intro t k; exact XS.aloadN X2.here hx rfl (hb hby d11_22) rfl rfl k) ?_
  refine go (T' := T2) (f' := (mkF m 24 #[.val (.ref a0), .val (.int (1 : Int32))] [(.ref a0), (.ref a0)])) (by intro t k; exact XS.dup X2.here hx rfl (hb hby d11_23) rfl rfl k) ?_
  obtain ⟨T3, X3, e3, st3⟩ := getF X2 hx hZ hown (host := "") (Or.inl (tw hw 30 rfl)) Via.refl e2 Fs (g := (mkF m 24 #[.val (.ref a0), .val (.int (1 : Int32))] [(.ref a0), (.ref a0)])) rfl rfl (hb hby d11_24)
  refine go st3 ?_
  show Run _ _ _ _ _ _ _ T3 (mkF m 27 #[.val (.ref a0), .val (.int (1 : Int32))] [(.int (1 : Int32)), (.ref a0)])
  refine go (T' := T3) (f' := (mkF m 28 #[.val (.ref a0), .val (.int (1 : Int32))] [(.int (1 : Int32)), (.int (1 : Int32)), (.ref a0)])) (by intro t k; exact XS.iconst X3.here hx rfl (hb hby d11_27) k) ?_
  refine go (T' := T3) (f' := (mkF m 29 #[.val (.ref a0), .val (.int (1 : Int32))] [(.int (0 : Int32)), (.ref a0)])) (by intro t k; exact XS.isub X3.here hx rfl (hb hby d11_28) rfl k) ?_
  obtain ⟨T4, h4, X4, e4, W4, st4⟩ := putF X3 hx hZ hown (host := "") (Or.inl (tw hw 30 rfl)) Via.refl e3 Fs E (Or.inl (tw hw 31 rfl)) (tw hw 1 rfl) (ty := .int) (by decide) rfl rfl (g := (mkF m 29 #[.val (.ref a0), .val (.int (1 : Int32))] [(.int (0 : Int32)), (.ref a0)])) rfl rfl (hb hby d11_29)
  have K4 : Keep h0 h4 [a0] := Keep.of_wr W4
  have F4_a0_heap := Fld.other W4 Fh (Or.inr (slot_ne (Or.inr (tw hw 11 rfl)) (Or.inl (tw hw 31 rfl)) (by decide) (t := (.array .int)) (t' := .int) (by decide) (by decide)))
  have F4_a0_priorities := Fld.other W4 Fd (Or.inr (slot_ne (Or.inr (tw hw 14 rfl)) (Or.inl (tw hw 31 rfl)) (by decide) (t := (.array .double)) (t' := .int) (by decide) (by decide)))
  have F4_a0_places := Fld.other W4 Fp (Or.inr (slot_ne (Or.inr (tw hw 16 rfl)) (Or.inl (tw hw 31 rfl)) (by decide) (t := (.array .int)) (t' := .int) (by decide) (by decide)))
  have F4_a0_size : Fld Z h4 a0 "com/example/wayshard/wayshard/service/VertexQueue" "size" "I" (.int (0 : Int32)) := Fs.same W4
  have F4_a0_taken := Fld.other W4 Ft (Or.inr (slot_ne (Or.inl (tw hw 33 rfl)) (Or.inl (tw hw 31 rfl)) (by decide) (t := .int) (t' := .int) (by decide) (by decide)))
  have N4 := Fr.snoc X4 N0 g0
  have E4_a0 := Exa.keep E K4
  have A4_bh := Ary.keep Ah K4 (ninS (Ne.symm n0h) nin0)
  have A4_bd := Ary.keep Ad K4 (ninS (Ne.symm n0d) nin0)
  have A4_bp := Ary.keep Ap K4 (ninS (Ne.symm n0p) nin0)
  have Z4 : n0 ≤ h4.size := Nat.le_trans Z0 K4.1
  have KK4 : Keep h0 h4 [a0, bh, bd, bp] := (Keep.refl _ _).trans K4 (allS (Or.inl (List.mem_of_getElem? (i := 0) rfl)) all0)
  refine go st4 ?_
  show Run _ _ _ _ _ _ _ T4 (mkF m 32 #[.val (.ref a0), .val (.int (1 : Int32))] [])
  refine go (T' := T4) (f' := (mkF m 33 #[.val (.ref a0), .val (.int (1 : Int32))] [(.ref a0)])) (by intro t k; exact XS.aloadN X4.here hx rfl (hb hby d11_32) rfl rfl k) ?_
  obtain ⟨T5, X5, e5, st5⟩ := getF X4 hx hZ hown (host := "") (Or.inl (tw hw 30 rfl)) Via.refl e4 F4_a0_size (g := (mkF m 33 #[.val (.ref a0), .val (.int (1 : Int32))] [(.ref a0)])) rfl rfl (hb hby d11_33)
  refine go st5 ?_
  show Run _ _ _ _ _ _ _ T5 (mkF m 36 #[.val (.ref a0), .val (.int (1 : Int32))] [(.int (0 : Int32))])
  refine go (T' := T5) (f' := (mkF m 71 #[.val (.ref a0), .val (.int (1 : Int32))] [])) (by intro t k; exact XS.ifYes X5.here hx rfl (pc0 := 36) (pc' := 71) rfl (hb hby d11_36) rfl ((if0 _ _).trans (flt (by decide : ¬ ((0 : Int32) < (0 : Int32)))).2.2.2) (by decide) (by decide) k) ?_
  refine go (T' := T5) (f' := (mkF m 72 #[.val (.ref a0), .val (.int (1 : Int32))] [(.ref a0)])) (by intro t k; exact XS.aloadN X5.here hx rfl (hb hby d11_71) rfl rfl k) ?_
  refine go (T' := T5) (f' := (mkF m 73 #[.val (.ref a0), .val (.int (1 : Int32))] [(.ref a0), (.ref a0)])) (by intro t k; exact XS.dup X5.here hx rfl (hb hby d11_72) rfl rfl k) ?_
  obtain ⟨T6, X6, e6, st6⟩ := getF X5 hx hZ hown (host := "") (Or.inl (tw hw 32 rfl)) Via.refl e5 F4_a0_taken (g := (mkF m 73 #[.val (.ref a0), .val (.int (1 : Int32))] [(.ref a0), (.ref a0)])) rfl rfl (hb hby d11_73)
  refine go st6 ?_
  show Run _ _ _ _ _ _ _ T6 (mkF m 76 #[.val (.ref a0), .val (.int (1 : Int32))] [(.int (0 : Int32)), (.ref a0)])
  refine go (T' := T6) (f' := (mkF m 77 #[.val (.ref a0), .val (.int (1 : Int32))] [(.int (1 : Int32)), (.int (0 : Int32)), (.ref a0)])) (by intro t k; exact XS.iconst X6.here hx rfl (hb hby d11_76) k) ?_
  refine go (T' := T6) (f' := (mkF m 78 #[.val (.ref a0), .val (.int (1 : Int32))] [(.int (1 : Int32)), (.ref a0)])) (by intro t k; exact XS.iadd X6.here hx rfl (hb hby d11_77) rfl k) ?_
  obtain ⟨T7, h7, X7, e7, W7, st7⟩ := putF X6 hx hZ hown (host := "") (Or.inl (tw hw 32 rfl)) Via.refl e6 F4_a0_taken E4_a0 (Or.inl (tw hw 33 rfl)) (tw hw 1 rfl) (ty := .int) (by decide) rfl rfl (g := (mkF m 78 #[.val (.ref a0), .val (.int (1 : Int32))] [(.int (1 : Int32)), (.ref a0)])) rfl rfl (hb hby d11_78)
  have K7 : Keep h4 h7 [a0] := Keep.of_wr W7
  have F7_a0_heap := Fld.other W7 F4_a0_heap (Or.inr (slot_ne (Or.inr (tw hw 11 rfl)) (Or.inl (tw hw 33 rfl)) (by decide) (t := (.array .int)) (t' := .int) (by decide) (by decide)))
  have F7_a0_priorities := Fld.other W7 F4_a0_priorities (Or.inr (slot_ne (Or.inr (tw hw 14 rfl)) (Or.inl (tw hw 33 rfl)) (by decide) (t := (.array .double)) (t' := .int) (by decide) (by decide)))
  have F7_a0_places := Fld.other W7 F4_a0_places (Or.inr (slot_ne (Or.inr (tw hw 16 rfl)) (Or.inl (tw hw 33 rfl)) (by decide) (t := (.array .int)) (t' := .int) (by decide) (by decide)))
  have F7_a0_size := Fld.other W7 F4_a0_size (Or.inr (slot_ne (Or.inl (tw hw 31 rfl)) (Or.inl (tw hw 33 rfl)) (by decide) (t := .int) (t' := .int) (by decide) (by decide)))
  have F7_a0_taken : Fld Z h7 a0 "com/example/wayshard/wayshard/service/VertexQueue" "taken" "I" (.int (1 : Int32)) := F4_a0_taken.same W7
  have N7 := Fr.snoc X7 N4 g0
  have E7_a0 := Exa.keep E4_a0 K7
  have A7_bh := Ary.keep A4_bh K7 (ninS (Ne.symm n0h) nin0)
  have A7_bd := Ary.keep A4_bd K7 (ninS (Ne.symm n0d) nin0)
  have A7_bp := Ary.keep A4_bp K7 (ninS (Ne.symm n0p) nin0)
  have Z7 : n0 ≤ h7.size := Nat.le_trans Z4 K7.1
  have KK7 : Keep h0 h7 [a0, bh, bd, bp] := KK4.trans K7 (allS (Or.inl (List.mem_of_getElem? (i := 0) rfl)) all0)
  refine go st7 ?_
  show Run _ _ _ _ _ _ _ T7 (mkF m 81 #[.val (.ref a0), .val (.int (1 : Int32))] [])
  refine go (T' := T7) (f' := (mkF m 82 #[.val (.ref a0), .val (.int (1 : Int32))] [(.ref a0)])) (by intro t k; exact XS.aloadN X7.here hx rfl (hb hby d11_81) rfl rfl k) ?_
  obtain ⟨T8, X8, e8, st8⟩ := getF X7 hx hZ hown (host := "") (Or.inl (tw hw 10 rfl)) Via.refl e7 F7_a0_heap (g := (mkF m 82 #[.val (.ref a0), .val (.int (1 : Int32))] [(.ref a0)])) rfl rfl (hb hby d11_82)
  refine go st8 ?_
  show Run _ _ _ _ _ _ _ T8 (mkF m 85 #[.val (.ref a0), .val (.int (1 : Int32))] [(.ref bh)])
  refine go (T' := T8) (f' := (mkF m 86 #[.val (.ref a0), .val (.int (1 : Int32))] [(.ref a0), (.ref bh)])) (by intro t k; exact XS.aloadN X8.here hx rfl (hb hby d11_85) rfl rfl k) ?_
  obtain ⟨T9, X9, e9, st9⟩ := getF X8 hx hZ hown (host := "") (Or.inl (tw hw 10 rfl)) Via.refl e8 F7_a0_heap (g := (mkF m 86 #[.val (.ref a0), .val (.int (1 : Int32))] [(.ref a0), (.ref bh)])) rfl rfl (hb hby d11_86)
  refine go st9 ?_
  show Run _ _ _ _ _ _ _ T9 (mkF m 89 #[.val (.ref a0), .val (.int (1 : Int32))] [(.ref bh), (.ref bh)])
  refine go (T' := T9) (f' := (mkF m 90 #[.val (.ref a0), .val (.int (1 : Int32))] [(.int (2 : Int32)), (.ref bh)])) (by intro t k; exact alen X9 hx hZ e9 A7_bh (z := (2 : Int32)) rfl (g := (mkF m 89 #[.val (.ref a0), .val (.int (1 : Int32))] [(.ref bh), (.ref bh)])) rfl rfl (hb hby d11_89) _ k) ?_
  refine go (T' := T9) (f' := (mkF m 91 #[.val (.ref a0), .val (.int (1 : Int32))] [(.ref a0), (.int (2 : Int32)), (.ref bh)])) (by intro t k; exact XS.aloadN X9.here hx rfl (hb hby d11_90) rfl rfl k) ?_
  obtain ⟨T10, X10, e10, st10⟩ := getF X9 hx hZ hown (host := "") (Or.inl (tw hw 32 rfl)) Via.refl e9 F7_a0_taken (g := (mkF m 91 #[.val (.ref a0), .val (.int (1 : Int32))] [(.ref a0), (.int (2 : Int32)), (.ref bh)])) rfl rfl (hb hby d11_91)
  refine go st10 ?_
  show Run _ _ _ _ _ _ _ T10 (mkF m 94 #[.val (.ref a0), .val (.int (1 : Int32))] [(.int (1 : Int32)), (.int (2 : Int32)), (.ref bh)])
  refine go (T' := T10) (f' := (mkF m 95 #[.val (.ref a0), .val (.int (1 : Int32))] [(.int (1 : Int32)), (.ref bh)])) (by intro t k; exact XS.isub X10.here hx rfl (hb hby d11_94) rfl k) ?_
  refine go (T' := T10) (f' := (mkF m 96 #[.val (.ref a0), .val (.int (1 : Int32))] [(.int (1 : Int32)), (.int (1 : Int32)), (.ref bh)])) (by intro t k; exact XS.iloadN X10.here hx rfl (hb hby d11_95) rfl k) ?_
  obtain ⟨cl11, Ar11, hin11⟩ := Ary.st (j := (1 : Int32)) A7_bh (by decide) (by show (1 : Int32).toNatClampNeg < 2; decide)
  obtain ⟨T11, h11, X11, e11, W11, st11⟩ := stI X10 hx hZ e10 Ar11 (j := (1 : Int32)) hin11 (g := (mkF m 96 #[.val (.ref a0), .val (.int (1 : Int32))] [(.int (1 : Int32)), (.int (1 : Int32)), (.ref bh)])) rfl rfl (hb hby d11_96)
  have K11 : Keep h7 h11 [bh] := Keep.of_wr W11
  have V11 : Ary Z h11 bh .int [(.int (1 : Int32)), (.int (1 : Int32))] := Ary.set A7_bh W11 rfl
  have N11 := Fr.snoc X11 N7 gh
  have E11_a0 := Exa.keep E7_a0 K11
  have F11_a0_heap := Fld.keep F7_a0_heap K11 (ninS n0h nin0)
  have F11_a0_priorities := Fld.keep F7_a0_priorities K11 (ninS n0h nin0)
  have F11_a0_places := Fld.keep F7_a0_places K11 (ninS n0h nin0)
  have F11_a0_size := Fld.keep F7_a0_size K11 (ninS n0h nin0)
  have F11_a0_taken := Fld.keep F7_a0_taken K11 (ninS n0h nin0)
  have A11_bd := Ary.keep A7_bd K11 (ninS (Ne.symm nhd) nin0)
  have A11_bp := Ary.keep A7_bp K11 (ninS (Ne.symm nhp) nin0)
  have Z11 : n0 ≤ h11.size := Nat.le_trans Z7 K11.1
  have KK11 : Keep h0 h11 [a0, bh, bd, bp] := KK7.trans K11 (allS (Or.inl (List.mem_of_getElem? (i := 1) rfl)) all0)
  refine go st11 ?_
  show Run _ _ _ _ _ _ _ T11 (mkF m 97 #[.val (.ref a0), .val (.int (1 : Int32))] [])
  refine go (T' := T11) (f' := (mkF m 98 #[.val (.ref a0), .val (.int (1 : Int32))] [(.ref a0)])) (by intro t k; exact XS.aloadN X11.here hx rfl (hb hby d11_97) rfl rfl k) ?_
  obtain ⟨T12, X12, e12, st12⟩ := getF X11 hx hZ hown (host := "") (Or.inl (tw hw 15 rfl)) Via.refl e11 F11_a0_places (g := (mkF m 98 #[.val (.ref a0), .val (.int (1 : Int32))] [(.ref a0)])) rfl rfl (hb hby d11_98)
  refine go st12 ?_
  show Run _ _ _ _ _ _ _ T12 (mkF m 101 #[.val (.ref a0), .val (.int (1 : Int32))] [(.ref bp)])
  refine go (T' := T12) (f' := (mkF m 102 #[.val (.ref a0), .val (.int (1 : Int32))] [(.int (1 : Int32)), (.ref bp)])) (by intro t k; exact XS.iloadN X12.here hx rfl (hb hby d11_101) rfl k) ?_
  refine go (T' := T12) (f' := (mkF m 104 #[.val (.ref a0), .val (.int (1 : Int32))] [(.int (-2 : Int32)), (.int (1 : Int32)), (.ref bp)])) (by intro t k; exact XS.bipush X12.here hx rfl (hb hby d11_102) k) ?_
  obtain ⟨cl13, Ar13, hin13⟩ := Ary.st (j := (1 : Int32)) A11_bp (by decide) (by show (1 : Int32).toNatClampNeg < 2; decide)
  obtain ⟨T13, h13, X13, e13, W13, st13⟩ := stI X12 hx hZ e12 Ar13 (j := (1 : Int32)) hin13 (g := (mkF m 104 #[.val (.ref a0), .val (.int (1 : Int32))] [(.int (-2 : Int32)), (.int (1 : Int32)), (.ref bp)])) rfl rfl (hb hby d11_104)
  have K13 : Keep h11 h13 [bp] := Keep.of_wr W13
  have V13 : Ary Z h13 bp .int [(.int (-1 : Int32)), (.int (-2 : Int32))] := Ary.set A11_bp W13 rfl
  have N13 := Fr.snoc X13 N11 gp
  have E13_a0 := Exa.keep E11_a0 K13
  have F13_a0_heap := Fld.keep F11_a0_heap K13 (ninS n0p nin0)
  have F13_a0_priorities := Fld.keep F11_a0_priorities K13 (ninS n0p nin0)
  have F13_a0_places := Fld.keep F11_a0_places K13 (ninS n0p nin0)
  have F13_a0_size := Fld.keep F11_a0_size K13 (ninS n0p nin0)
  have F13_a0_taken := Fld.keep F11_a0_taken K13 (ninS n0p nin0)
  have A13_bh := Ary.keep V11 K13 (ninS nhp nin0)
  have A13_bd := Ary.keep A11_bd K13 (ninS ndp nin0)
  have Z13 : n0 ≤ h13.size := Nat.le_trans Z11 K13.1
  have KK13 : Keep h0 h13 [a0, bh, bd, bp] := KK11.trans K13 (allS (Or.inl (List.mem_of_getElem? (i := 3) rfl)) all0)
  refine go st13 ?_
  show Run _ _ _ _ _ _ _ T13 (mkF m 105 #[.val (.ref a0), .val (.int (1 : Int32))] [])
  refine go (T' := T13) (f' := (mkF m 106 #[.val (.ref a0), .val (.int (1 : Int32))] [(.int (1 : Int32))])) (by intro t k; exact XS.iloadN X13.here hx rfl (hb hby d11_105) rfl k) ?_
  refine retW X13 hx (t := .int) Bd.returns rfl (Or.inl ⟨rfl, Or.inl rfl, _, rfl⟩) (hb hby d11_106) hlk (by decide) (by decide) ?_
  show Q11t13 Z a0 bh bd bp x0 x1 u1 h0 n0 _ T13.heap _
  rw [e13]
  have hv : (some (.int (1 : Int32)) : Option Value) = some (.int (1 : Int32)) := rfl
  exact ⟨hv, N13, KK13, ⟨E13_a0, F13_a0_heap, F13_a0_priorities, F13_a0_places, F13_a0_size, F13_a0_taken, A13_bh, A13_bd, V13, g0, gh, gd, gp, n0h, n0d, n0p, nhd, nhp, ndp⟩⟩
theorem ef_6t14 (m : MethodId) (x0 : Addr) : entryFrame m #[(.ref x0)] 1 = mkF m 0 #[.val (.ref x0)] [] := by first | (simp [entryFrame, mkF, argsToLocals, Value.category]; done) | rfl
def Q6t14 (Z : State) (a0 : Addr) (bh bd bp : Addr) (x0 x1 : UInt64) (h0 : Heap) (n0 : Nat) (v : Option Value) (h : Heap) (L : List Loc) : Prop := v = some (.int (1 : Int32)) ∧ Fr n0 L ∧ Keep h0 h [a0, bh, bd, bp] ∧ own_st Z n0 h a0 bh bd bp (1 : Int32) (1 : Int32) (-1 : Int32) (-2 : Int32) (0 : Int32) (1 : Int32) x0 x1
set_option maxRecDepth 65536 in
set_option maxHeartbeats 40000000 in
theorem rm6t14 (l : Launch) (Z : State) (aw : Array Value) (hw : ∀ d ∈ tables_1, d.before aw Z = true) (ws : List Jvm.Cond) (a0 : Addr) (bh bd bp : Addr) (x0 x1 : UInt64) (h0 : Heap) (n0 : Nat) (Z0 : n0 ≤ h0.size) (St : own_st Z n0 h0 a0 bh bd bp (1 : Int32) (1 : Int32) (-1 : Int32) (-2 : Int32) (0 : Int32) (1 : Int32) x0 x1) :
    MetFree l misEmpty (head1 (Jvm.Cond.code misEmpty prog_64_method_2_code 1 (some .boolean) :: ws) rO0) (fun a U => a = #[(.ref a0)] ∧ Z.Warmed39 U.vm ∧ U.heap = h0) (fun _ _ _ _ _ => True) (fun _ U o U' => ∃ v L, o = .returned v ∧ Q6t14 Z a0 bh bd bp x0 x1 h0 n0 v U'.heap L ∧ FrameEnd U o U' L rO0.cells rO0.slots) := by
  refine MetFree.of_bodySF (plainFor_of_name pn_1) hisR ?_
  intro p e s m args below meth c s₁ Bd hml0 hP hK
  obtain ⟨rfl, hZ, hh⟩ := hP
  have hx := Bd.exec
  have hby := Bd.bytes
  have hml : c.maxLocals = 1 := hml0
  have hown : s.vm.findClass "com/example/wayshard/wayshard/service/VertexQueue" = some m.cls := findClass_of_methodNamed Bd.named
  have hnm := (name_of_methodNamed Bd.named Bd.method).1
  have hlk : meth.locks = false := BodyLoose.notSynchronized Bd
  have X0 : Stand p l e rO0 s m #[(.ref a0)] below meth c s₁ [] 0 0 := Stand.of_body Bd
  have e0 : s₁.heap = h0 := by rw [← hh, Bd.state]; rfl
  have N0 := Fr.nil n0
  show Run p e s below (Q6t14 Z a0 bh bd bp x0 x1 h0 n0) rO0.cells rO0.slots s₁ (entryFrame m #[(.ref a0)] 1)
  rw [ef_6t14]
  obtain ⟨E, Fh, Fd, Fp, Fs, Ft, Ah, Ad, Ap, g0, gh, gd, gp, n0h, n0d, n0p, nhd, nhp, ndp⟩ := St
  show Run _ _ _ _ _ _ _ s₁ (mkF m 0 #[.val (.ref a0)] [])
  refine go (T' := s₁) (f' := (mkF m 1 #[.val (.ref a0)] [(.ref a0)])) (by intro t k; exact XS.aloadN X0.here hx rfl (hb hby d6_0) rfl rfl k) ?_
  obtain ⟨T1, X1, e1, st1⟩ := getF X0 hx hZ hown (host := "") (Or.inl (tw hw 30 rfl)) Via.refl e0 Fs (g := (mkF m 1 #[.val (.ref a0)] [(.ref a0)])) rfl rfl (hb hby d6_1)
  refine go st1 ?_
  show Run _ _ _ _ _ _ _ T1 (mkF m 4 #[.val (.ref a0)] [(.int (0 : Int32))])
  refine go (T' := T1) (f' := (mkF m 7 #[.val (.ref a0)] [])) (by intro t k; exact XS.ifNo X1.here hx rfl (hb hby d6_4) rfl ((if0 _ _).trans (teq (rfl : (0 : Int32) = (0 : Int32))).2) k) ?_
  refine go (T' := T1) (f' := (mkF m 8 #[.val (.ref a0)] [(.int (1 : Int32))])) (by intro t k; exact XS.iconst X1.here hx rfl (hb hby d6_7) k) ?_
  refine go (T' := T1) (f' := (mkF m 12 #[.val (.ref a0)] [(.int (1 : Int32))])) (by intro t k; exact XS.goto X1.here hx rfl (pc0 := 8) (pc' := 12) rfl (hb hby d6_8) (by decide) (by decide) k) ?_
  refine retZ X1 hx (t := .boolean) Bd.returns (by simp) (hb hby d6_12) hlk (by decide) (by decide) ?_
  show Q6t14 Z a0 bh bd bp x0 x1 h0 n0 _ T1.heap _
  rw [e1]
  have hv' : (nar .boolean (1 : Int32)) = (1 : Int32) := by
    rfl
  have hv : (some (.int (nar .boolean (1 : Int32))) : Option Value) = some (.int (1 : Int32)) := congrArg (fun z => (some (.int z) : Option Value)) hv'
  exact ⟨hv, N0, (Keep.refl _ _), ⟨E, Fh, Fd, Fp, Fs, Ft, Ah, Ad, Ap, g0, gh, gd, gp, n0h, n0d, n0p, nhd, nhp, ndp⟩⟩
theorem d5_0 : decode prog_64_method_3_code 0 = .ok (.iconst 0, 1) := by decide +kernel
theorem d5_1 : decode prog_64_method_3_code 1 = .ok (.istore_n 1, 1) := by decide +kernel
theorem d5_2 : decode prog_64_method_3_code 2 = .ok (.iload_n 1, 1) := by decide +kernel
theorem d5_3 : decode prog_64_method_3_code 3 = .ok (.aload_n 0, 1) := by decide +kernel
theorem d5_4 : decode prog_64_method_3_code 4 = .ok (.getfield 26, 3) := by decide +kernel
theorem d5_7 : decode prog_64_method_3_code 7 = .ok (.if_icmp .ge 21, 3) := by decide +kernel
theorem d5_28 : decode prog_64_method_3_code 28 = .ok (.aload_n 0, 1) := by decide +kernel
theorem d5_29 : decode prog_64_method_3_code 29 = .ok (.getfield 7, 3) := by decide +kernel
theorem d5_32 : decode prog_64_method_3_code 32 = .ok (.arraylength, 1) := by decide +kernel
theorem d5_33 : decode prog_64_method_3_code 33 = .ok (.aload_n 0, 1) := by decide +kernel
theorem d5_34 : decode prog_64_method_3_code 34 = .ok (.getfield 30, 3) := by decide +kernel
theorem d5_37 : decode prog_64_method_3_code 37 = .ok (.isub, 1) := by decide +kernel
theorem d5_38 : decode prog_64_method_3_code 38 = .ok (.istore_n 1, 1) := by decide +kernel
theorem d5_39 : decode prog_64_method_3_code 39 = .ok (.iload_n 1, 1) := by decide +kernel
theorem d5_40 : decode prog_64_method_3_code 40 = .ok (.aload_n 0, 1) := by decide +kernel
theorem d5_41 : decode prog_64_method_3_code 41 = .ok (.getfield 7, 3) := by decide +kernel
theorem d5_44 : decode prog_64_method_3_code 44 = .ok (.arraylength, 1) := by decide +kernel
theorem d5_45 : decode prog_64_method_3_code 45 = .ok (.if_icmp .ge 21, 3) := by decide +kernel
theorem d5_66 : decode prog_64_method_3_code 66 = .ok (.aload_n 0, 1) := by decide +kernel
theorem d5_67 : decode prog_64_method_3_code 67 = .ok (.iconst 0, 1) := by decide +kernel
theorem d5_68 : decode prog_64_method_3_code 68 = .ok (.putfield 26, 3) := by decide +kernel
theorem d5_71 : decode prog_64_method_3_code 71 = .ok (.aload_n 0, 1) := by decide +kernel
theorem d5_72 : decode prog_64_method_3_code 72 = .ok (.iconst 0, 1) := by decide +kernel
theorem d5_73 : decode prog_64_method_3_code 73 = .ok (.putfield 30, 3) := by decide +kernel
theorem d5_76 : decode prog_64_method_3_code 76 = .ok (.return_, 1) := by decide +kernel
theorem ef_5t15 (m : MethodId) (x0 : Addr) : entryFrame m #[(.ref x0)] 2 = mkF m 0 #[.val (.ref x0), .unset] [] := by first | (simp [entryFrame, mkF, argsToLocals, Value.category]; done) | rfl
def Q5t15 (Z : State) (a0 : Addr) (bh bd bp : Addr) (x0 x1 : UInt64) (h0 : Heap) (n0 : Nat) (v : Option Value) (h : Heap) (L : List Loc) : Prop := v = none ∧ Fr n0 L ∧ Keep h0 h [a0, bh, bd, bp] ∧ own_st Z n0 h a0 bh bd bp (0 : Int32) (0 : Int32) (-1 : Int32) (-1 : Int32) (0 : Int32) (0 : Int32) x0 x1
set_option maxRecDepth 65536 in
set_option maxHeartbeats 40000000 in
theorem rm5t15 (l : Launch) (Z : State) (aw : Array Value) (hw : ∀ d ∈ tables_1, d.before aw Z = true) (ws : List Jvm.Cond) (a0 : Addr) (bh bd bp : Addr) (x0 x1 : UInt64) (h0 : Heap) (n0 : Nat) (Z0 : n0 ≤ h0.size) (St : own_st Z n0 h0 a0 bh bd bp (0 : Int32) (0 : Int32) (-1 : Int32) (-1 : Int32) (0 : Int32) (0 : Int32) x0 x1) :
    MetFree l mclear (head1 (Jvm.Cond.code mclear prog_64_method_3_code 2 none :: ws) rO0) (fun a U => a = #[(.ref a0)] ∧ Z.Warmed39 U.vm ∧ U.heap = h0) (fun _ _ _ _ _ => True) (fun _ U o U' => ∃ v L, o = .returned v ∧ Q5t15 Z a0 bh bd bp x0 x1 h0 n0 v U'.heap L ∧ FrameEnd U o U' L rO0.cells rO0.slots) := by
  refine MetFree.of_bodySF (plainFor_of_name pn_1) hisR ?_
  intro p e s m args below meth c s₁ Bd hml0 hP hK
  obtain ⟨rfl, hZ, hh⟩ := hP
  have hx := Bd.exec
  have hby := Bd.bytes
  have hml : c.maxLocals = 2 := hml0
  have hown : s.vm.findClass "com/example/wayshard/wayshard/service/VertexQueue" = some m.cls := findClass_of_methodNamed Bd.named
  have hnm := (name_of_methodNamed Bd.named Bd.method).1
  have hlk : meth.locks = false := BodyLoose.notSynchronized Bd
  have X0 : Stand p l e rO0 s m #[(.ref a0)] below meth c s₁ [] 0 0 := Stand.of_body Bd
  have e0 : s₁.heap = h0 := by rw [← hh, Bd.state]; rfl
  have N0 := Fr.nil n0
  show Run p e s below (Q5t15 Z a0 bh bd bp x0 x1 h0 n0) rO0.cells rO0.slots s₁ (entryFrame m #[(.ref a0)] 2)
  rw [ef_5t15]
  obtain ⟨E, Fh, Fd, Fp, Fs, Ft, Ah, Ad, Ap, g0, gh, gd, gp, n0h, n0d, n0p, nhd, nhp, ndp⟩ := St
  show Run _ _ _ _ _ _ _ s₁ (mkF m 0 #[.val (.ref a0), .unset] [])
  refine go (T' := s₁) (f' := (mkF m 1 #[.val (.ref a0), .unset] [(.int (0 : Int32))])) (by intro t k; exact XS.iconst X0.here hx rfl (hb hby d5_0) k) ?_
  refine go (T' := s₁) (f' := (mkF m 2 #[.val (.ref a0), .val (.int (0 : Int32))] [])) (by intro t k; exact XS.istoreN X0.here hx rfl (hb hby d5_1) rfl (l' := #[.val (.ref a0), .val (.int (0 : Int32))]) rfl k) ?_
  refine go (T' := s₁) (f' := (mkF m 3 #[.val (.ref a0), .val (.int (0 : Int32))] [(.int (0 : Int32))])) (by intro t k; exact XS.iloadN X0.here hx rfl (hb hby d5_2) rfl k) ?_
  refine go (T' := s₁) (f' := (mkF m 4 #[.val (.ref a0), .val (.int (0 : Int32))] [(.ref a0), (.int (0 : Int32))])) (by intro t k; exact XS.aloadN X0.here hx rfl (hb hby d5_3) rfl rfl k) ?_
  obtain ⟨T1, X1, e1, st1⟩ := getF X0 hx hZ hown (host := "") (Or.inl (tw hw 30 rfl)) Via.refl e0 Fs (g := (mkF m 4 #[.val (.ref a0), .val (.int (0 : Int32))] [(.ref a0), (.int (0 : Int32))])) rfl rfl (hb hby d5_4)
  refine go st1 ?_
  show Run _ _ _ _ _ _ _ T1 (mkF m 7 #[.val (.ref a0), .val (.int (0 : Int32))] [(.int (0 : Int32)), (.int (0 : Int32))])
  refine go (T' := T1) (f' := (mkF m 28 #[.val (.ref a0), .val (.int (0 : Int32))] [])) (by intro t k; exact XS.icmpYes X1.here hx rfl (pc0 := 7) (pc' := 28) rfl (hb hby d5_7) rfl (flt (by decide : ¬ ((0 : Int32) < (0 : Int32)))).2.1 (by decide) (by decide) k) ?_
  refine go (T' := T1) (f' := (mkF m 29 #[.val (.ref a0), .val (.int (0 : Int32))] [(.ref a0)])) (by intro t k; exact XS.aloadN X1.here hx rfl (hb hby d5_28) rfl rfl k) ?_
  obtain ⟨T2, X2, e2, st2⟩ := getF X1 hx hZ hown (host := "") (Or.inl (tw hw 10 rfl)) Via.refl e1 Fh (g := (mkF m 29 #[.val (.ref a0), .val (.int (0 : Int32))] [(.ref a0)])) rfl rfl (hb hby d5_29)
  refine go st2 ?_
  show Run _ _ _ _ _ _ _ T2 (mkF m 32 #[.val (.ref a0), .val (.int (0 : Int32))] [(.ref bh)])
  refine go (T' := T2) (f' := (mkF m 33 #[.val (.ref a0), .val (.int (0 : Int32))] [(.int (2 : Int32))])) (by intro t k; exact alen X2 hx hZ e2 Ah (z := (2 : Int32)) rfl (g := (mkF m 32 #[.val (.ref a0), .val (.int (0 : Int32))] [(.ref bh)])) rfl rfl (hb hby d5_32) _ k) ?_
  refine go (T' := T2) (f' := (mkF m 34 #[.val (.ref a0), .val (.int (0 : Int32))] [(.ref a0), (.int (2 : Int32))])) (by intro t k; exact XS.aloadN X2.here hx rfl (hb hby d5_33) rfl rfl k) ?_
  obtain ⟨T3, X3, e3, st3⟩ := getF X2 hx hZ hown (host := "") (Or.inl (tw hw 32 rfl)) Via.refl e2 Ft (g := (mkF m 34 #[.val (.ref a0), .val (.int (0 : Int32))] [(.ref a0), (.int (2 : Int32))])) rfl rfl (hb hby d5_34)
  refine go st3 ?_
  show Run _ _ _ _ _ _ _ T3 (mkF m 37 #[.val (.ref a0), .val (.int (0 : Int32))] [(.int (0 : Int32)), (.int (2 : Int32))])
  refine go (T' := T3) (f' := (mkF m 38 #[.val (.ref a0), .val (.int (0 : Int32))] [(.int (2 : Int32))])) (by intro t k; exact XS.isub X3.here hx rfl (hb hby d5_37) rfl k) ?_
  refine go (T' := T3) (f' := (mkF m 39 #[.val (.ref a0), .val (.int (2 : Int32))] [])) (by intro t k; exact XS.istoreN X3.here hx rfl (hb hby d5_38) rfl (l' := #[.val (.ref a0), .val (.int (2 : Int32))]) rfl k) ?_
  refine go (T' := T3) (f' := (mkF m 40 #[.val (.ref a0), .val (.int (2 : Int32))] [(.int (2 : Int32))])) (by intro t k; exact XS.iloadN X3.here hx rfl (hb hby d5_39) rfl k) ?_
  refine go (T' := T3) (f' := (mkF m 41 #[.val (.ref a0), .val (.int (2 : Int32))] [(.ref a0), (.int (2 : Int32))])) (by intro t k; exact XS.aloadN X3.here hx rfl (hb hby d5_40) rfl rfl k) ?_
  obtain ⟨T4, X4, e4, st4⟩ := getF X3 hx hZ hown (host := "") (Or.inl (tw hw 10 rfl)) Via.refl e3 Fh (g := (mkF m 41 #[.val (.ref a0), .val (.int (2 : Int32))] [(.ref a0), (.int (2 : Int32))])) rfl rfl (hb hby d5_41)
  refine go st4 ?_
  show Run _ _ _ _ _ _ _ T4 (mkF m 44 #[.val (.ref a0), .val (.int (2 : Int32))] [(.ref bh), (.int (2 : Int32))])
  refine go (T' := T4) (f' := (mkF m 45 #[.val (.ref a0), .val (.int (2 : Int32))] [(.int (2 : Int32)), (.int (2 : Int32))])) (by intro t k; exact alen X4 hx hZ e4 Ah (z := (2 : Int32)) rfl (g := (mkF m 44 #[.val (.ref a0), .val (.int (2 : Int32))] [(.ref bh), (.int (2 : Int32))])) rfl rfl (hb hby d5_44) _ k) ?_
  refine go (T' := T4) (f' := (mkF m 66 #[.val (.ref a0), .val (.int (2 : Int32))] [])) (by intro t k; exact XS.icmpYes X4.here hx rfl (pc0 := 45) (pc' := 66) rfl (hb hby d5_45) rfl (flt (by decide : ¬ ((2 : Int32) < (2 : Int32)))).2.1 (by decide) (by decide) k) ?_
  refine go (T' := T4) (f' := (mkF m 67 #[.val (.ref a0), .val (.int (2 : Int32))] [(.ref a0)])) (by intro t k; exact XS.aloadN X4.here hx rfl (hb hby d5_66) rfl rfl k) ?_
  refine go (T' := T4) (f' := (mkF m 68 #[.val (.ref a0), .val (.int (2 : Int32))] [(.int (0 : Int32)), (.ref a0)])) (by intro t k; exact XS.iconst X4.here hx rfl (hb hby d5_67) k) ?_
  obtain ⟨T5, h5, X5, e5, W5, st5⟩ := putF X4 hx hZ hown (host := "") (Or.inl (tw hw 30 rfl)) Via.refl e4 Fs E (Or.inl (tw hw 31 rfl)) (tw hw 1 rfl) (ty := .int) (by decide) rfl rfl (g := (mkF m 68 #[.val (.ref a0), .val (.int (2 : Int32))] [(.int (0 : Int32)), (.ref a0)])) rfl rfl (hb hby d5_68)
  have K5 : Keep h0 h5 [a0] := Keep.of_wr W5
  have F5_a0_heap := Fld.other W5 Fh (Or.inr (slot_ne (Or.inr (tw hw 11 rfl)) (Or.inl (tw hw 31 rfl)) (by decide) (t := (.array .int)) (t' := .int) (by decide) (by decide)))
  have F5_a0_priorities := Fld.other W5 Fd (Or.inr (slot_ne (Or.inr (tw hw 14 rfl)) (Or.inl (tw hw 31 rfl)) (by decide) (t := (.array .double)) (t' := .int) (by decide) (by decide)))
  have F5_a0_places := Fld.other W5 Fp (Or.inr (slot_ne (Or.inr (tw hw 16 rfl)) (Or.inl (tw hw 31 rfl)) (by decide) (t := (.array .int)) (t' := .int) (by decide) (by decide)))
  have F5_a0_size : Fld Z h5 a0 "com/example/wayshard/wayshard/service/VertexQueue" "size" "I" (.int (0 : Int32)) := Fs.same W5
  have F5_a0_taken := Fld.other W5 Ft (Or.inr (slot_ne (Or.inl (tw hw 33 rfl)) (Or.inl (tw hw 31 rfl)) (by decide) (t := .int) (t' := .int) (by decide) (by decide)))
  have N5 := Fr.snoc X5 N0 g0
  have E5_a0 := Exa.keep E K5
  have A5_bh := Ary.keep Ah K5 (ninS (Ne.symm n0h) nin0)
  have A5_bd := Ary.keep Ad K5 (ninS (Ne.symm n0d) nin0)
  have A5_bp := Ary.keep Ap K5 (ninS (Ne.symm n0p) nin0)
  have Z5 : n0 ≤ h5.size := Nat.le_trans Z0 K5.1
  have KK5 : Keep h0 h5 [a0, bh, bd, bp] := (Keep.refl _ _).trans K5 (allS (Or.inl (List.mem_of_getElem? (i := 0) rfl)) all0)
  refine go st5 ?_
  show Run _ _ _ _ _ _ _ T5 (mkF m 71 #[.val (.ref a0), .val (.int (2 : Int32))] [])
  refine go (T' := T5) (f' := (mkF m 72 #[.val (.ref a0), .val (.int (2 : Int32))] [(.ref a0)])) (by intro t k; exact XS.aloadN X5.here hx rfl (hb hby d5_71) rfl rfl k) ?_
  refine go (T' := T5) (f' := (mkF m 73 #[.val (.ref a0), .val (.int (2 : Int32))] [(.int (0 : Int32)), (.ref a0)])) (by intro t k; exact XS.iconst X5.here hx rfl (hb hby d5_72) k) ?_
  obtain ⟨T6, h6, X6, e6, W6, st6⟩ := putF X5 hx hZ hown (host := "") (Or.inl (tw hw 32 rfl)) Via.refl e5 F5_a0_taken E5_a0 (Or.inl (tw hw 33 rfl)) (tw hw 1 rfl) (ty := .int) (by decide) rfl rfl (g := (mkF m 73 #[.val (.ref a0), .val (.int (2 : Int32))] [(.int (0 : Int32)), (.ref a0)])) rfl rfl (hb hby d5_73)
  have K6 : Keep h5 h6 [a0] := Keep.of_wr W6
  have F6_a0_heap := Fld.other W6 F5_a0_heap (Or.inr (slot_ne (Or.inr (tw hw 11 rfl)) (Or.inl (tw hw 33 rfl)) (by decide) (t := (.array .int)) (t' := .int) (by decide) (by decide)))
  have F6_a0_priorities := Fld.other W6 F5_a0_priorities (Or.inr (slot_ne (Or.inr (tw hw 14 rfl)) (Or.inl (tw hw 33 rfl)) (by decide) (t := (.array .double)) (t' := .int) (by decide) (by decide)))
  have F6_a0_places := Fld.other W6 F5_a0_places (Or.inr (slot_ne (Or.inr (tw hw 16 rfl)) (Or.inl (tw hw 33 rfl)) (by decide) (t := (.array .int)) (t' := .int) (by decide) (by decide)))
  have F6_a0_size := Fld.other W6 F5_a0_size (Or.inr (slot_ne (Or.inl (tw hw 31 rfl)) (Or.inl (tw hw 33 rfl)) (by decide) (t := .int) (t' := .int) (by decide) (by decide)))
  have F6_a0_taken : Fld Z h6 a0 "com/example/wayshard/wayshard/service/VertexQueue" "taken" "I" (.int (0 : Int32)) := F5_a0_taken.same W6
  have N6 := Fr.snoc X6 N5 g0
  have E6_a0 := Exa.keep E5_a0 K6
  have A6_bh := Ary.keep A5_bh K6 (ninS (Ne.symm n0h) nin0)
  have A6_bd := Ary.keep A5_bd K6 (ninS (Ne.symm n0d) nin0)
  have A6_bp := Ary.keep A5_bp K6 (ninS (Ne.symm n0p) nin0)
  have Z6 : n0 ≤ h6.size := Nat.le_trans Z5 K6.1
  have KK6 : Keep h0 h6 [a0, bh, bd, bp] := KK5.trans K6 (allS (Or.inl (List.mem_of_getElem? (i := 0) rfl)) all0)
  refine go st6 ?_
  show Run _ _ _ _ _ _ _ T6 (mkF m 76 #[.val (.ref a0), .val (.int (2 : Int32))] [])
  refine retV X6 hx Bd.returns (hb hby d5_76) hlk (by decide) (by decide) ?_
  show Q5t15 Z a0 bh bd bp x0 x1 h0 n0 _ T6.heap _
  rw [e6]
  exact ⟨rfl, N6, KK6, ⟨E6_a0, F6_a0_heap, F6_a0_priorities, F6_a0_places, F6_a0_size, F6_a0_taken, A6_bh, A6_bd, A6_bp, g0, gh, gd, gp, n0h, n0d, n0p, nhd, nhp, ndp⟩⟩
theorem ef_10t18 (m : MethodId) (x0 : Addr) : entryFrame m #[(.ref x0), (.int (1 : Int32)), (.int (0 : Int32))] 3 = mkF m 0 #[.val (.ref x0), .val (.int (1 : Int32)), .val (.int (0 : Int32))] [] := by first | (simp [entryFrame, mkF, argsToLocals, Value.category]; done) | rfl
def Q10t18 (Z : State) (a0 : Addr) (bh bd bp : Addr) (x0 x1 : UInt64) (h0 : Heap) (n0 : Nat) (v : Option Value) (h : Heap) (L : List Loc) : Prop := v = none ∧ Fr n0 L ∧ Keep h0 h [a0, bh, bd, bp] ∧ own_st Z n0 h a0 bh bd bp (1 : Int32) (0 : Int32) (-1 : Int32) (0 : Int32) (1 : Int32) (0 : Int32) x0 x1
set_option maxRecDepth 65536 in
set_option maxHeartbeats 40000000 in
theorem rm10t18 (l : Launch) (Z : State) (aw : Array Value) (hw : ∀ d ∈ tables_1, d.before aw Z = true) (ws : List Jvm.Cond) (a0 : Addr) (bh bd bp : Addr) (x0 x1 : UInt64) (h0 : Heap) (n0 : Nat) (Z0 : n0 ≤ h0.size) (St : own_st Z n0 h0 a0 bh bd bp (1 : Int32) (0 : Int32) (-1 : Int32) (0 : Int32) (1 : Int32) (0 : Int32) x0 x1) :
    MetFree l mmove (head1 (Jvm.Cond.code mmove prog_64_method_9_code 3 none :: ws) rO0) (fun a U => a = #[(.ref a0), (.int (1 : Int32)), (.int (0 : Int32))] ∧ Z.Warmed39 U.vm ∧ U.heap = h0) (fun _ _ _ _ _ => True) (fun _ U o U' => ∃ v L, o = .returned v ∧ Q10t18 Z a0 bh bd bp x0 x1 h0 n0 v U'.heap L ∧ FrameEnd U o U' L rO0.cells rO0.slots) := by
  refine MetFree.of_bodySF (plainFor_of_name pn_1) hisR ?_
  intro p e s m args below meth c s₁ Bd hml0 hP hK
  obtain ⟨rfl, hZ, hh⟩ := hP
  have hx := Bd.exec
  have hby := Bd.bytes
  have hml : c.maxLocals = 3 := hml0
  have hown : s.vm.findClass "com/example/wayshard/wayshard/service/VertexQueue" = some m.cls := findClass_of_methodNamed Bd.named
  have hnm := (name_of_methodNamed Bd.named Bd.method).1
  have hlk : meth.locks = false := BodyLoose.notSynchronized Bd
  have X0 : Stand p l e rO0 s m #[(.ref a0), (.int (1 : Int32)), (.int (0 : Int32))] below meth c s₁ [] 0 0 := Stand.of_body Bd
  have e0 : s₁.heap = h0 := by rw [← hh, Bd.state]; rfl
  have N0 := Fr.nil n0
  show Run p e s below (Q10t18 Z a0 bh bd bp x0 x1 h0 n0) rO0.cells rO0.slots s₁ (entryFrame m #[(.ref a0), (.int (1 : Int32)), (.int (0 : Int32))] 3)
  rw [ef_10t18]
  obtain ⟨E, Fh, Fd, Fp, Fs, Ft, Ah, Ad, Ap, g0, gh, gd, gp, n0h, n0d, n0p, nhd, nhp, ndp⟩ := St
  show Run _ _ _ _ _ _ _ s₁ (mkF m 0 #[.val (.ref a0), .val (.int (1 : Int32)), .val (.int (0 : Int32))] [])
  refine go (T' := s₁) (f' := (mkF m 1 #[.val (.ref a0), .val (.int (1 : Int32)), .val (.int (0 : Int32))] [(.ref a0)])) (by intro t k; exact XS.aloadN X0.here hx rfl (hb hby d10_0) rfl rfl k) ?_
  obtain ⟨T1, X1, e1, st1⟩ := getF X0 hx hZ hown (host := "") (Or.inl (tw hw 10 rfl)) Via.refl e0 Fh (g := (mkF m 1 #[.val (.ref a0), .val (.int (1 : Int32)), .val (.int (0 : Int32))] [(.ref a0)])) rfl rfl (hb hby d10_1)
  refine go st1 ?_
  show Run _ _ _ _ _ _ _ T1 (mkF m 4 #[.val (.ref a0), .val (.int (1 : Int32)), .val (.int (0 : Int32))] [(.ref bh)])
  refine go (T' := T1) (f' := (mkF m 5 #[.val (.ref a0), .val (.int (1 : Int32)), .val (.int (0 : Int32))] [(.int (0 : Int32)), (.ref bh)])) (by intro t k; exact XS.iloadN X1.here hx rfl (hb hby d10_4) rfl k) ?_
  refine go (T' := T1) (f' := (mkF m 6 #[.val (.ref a0), .val (.int (1 : Int32)), .val (.int (0 : Int32))] [(.int (1 : Int32)), (.int (0 : Int32)), (.ref bh)])) (by intro t k; exact XS.iloadN X1.here hx rfl (hb hby d10_5) rfl k) ?_
  obtain ⟨cl2, Ar2, hin2⟩ := Ary.st (j := (0 : Int32)) Ah (by decide) (by show (0 : Int32).toNatClampNeg < 2; decide)
  obtain ⟨T2, h2, X2, e2, W2, st2⟩ := stI X1 hx hZ e1 Ar2 (j := (0 : Int32)) hin2 (g := (mkF m 6 #[.val (.ref a0), .val (.int (1 : Int32)), .val (.int (0 : Int32))] [(.int (1 : Int32)), (.int (0 : Int32)), (.ref bh)])) rfl rfl (hb hby d10_6)
  have K2 : Keep h0 h2 [bh] := Keep.of_wr W2
  have V2 : Ary Z h2 bh .int [(.int (1 : Int32)), (.int (0 : Int32))] := Ary.set Ah W2 rfl
  have N2 := Fr.snoc X2 N0 gh
  have E2_a0 := Exa.keep E K2
  have F2_a0_heap := Fld.keep Fh K2 (ninS n0h nin0)
  have F2_a0_priorities := Fld.keep Fd K2 (ninS n0h nin0)
  have F2_a0_places := Fld.keep Fp K2 (ninS n0h nin0)
  have F2_a0_size := Fld.keep Fs K2 (ninS n0h nin0)
  have F2_a0_taken := Fld.keep Ft K2 (ninS n0h nin0)
  have A2_bd := Ary.keep Ad K2 (ninS (Ne.symm nhd) nin0)
  have A2_bp := Ary.keep Ap K2 (ninS (Ne.symm nhp) nin0)
  have Z2 : n0 ≤ h2.size := Nat.le_trans Z0 K2.1
  have KK2 : Keep h0 h2 [a0, bh, bd, bp] := (Keep.refl _ _).trans K2 (allS (Or.inl (List.mem_of_getElem? (i := 1) rfl)) all0)
  refine go st2 ?_
  show Run _ _ _ _ _ _ _ T2 (mkF m 7 #[.val (.ref a0), .val (.int (1 : Int32)), .val (.int (0 : Int32))] [])
  refine go (T' := T2) (f' := (mkF m 8 #[.val (.ref a0), .val (.int (1 : Int32)), .val (.int (0 : Int32))] [(.ref a0)])) (by intro t k; exact XS.aloadN X2.here hx rfl (hb hby d10_7) rfl rfl k) ?_
  obtain ⟨T3, X3, e3, st3⟩ := getF X2 hx hZ hown (host := "") (Or.inl (tw hw 15 rfl)) Via.refl e2 F2_a0_places (g := (mkF m 8 #[.val (.ref a0), .val (.int (1 : Int32)), .val (.int (0 : Int32))] [(.ref a0)])) rfl rfl (hb hby d10_8)
  refine go st3 ?_
  show Run _ _ _ _ _ _ _ T3 (mkF m 11 #[.val (.ref a0), .val (.int (1 : Int32)), .val (.int (0 : Int32))] [(.ref bp)])
  refine go (T' := T3) (f' := (mkF m 12 #[.val (.ref a0), .val (.int (1 : Int32)), .val (.int (0 : Int32))] [(.int (1 : Int32)), (.ref bp)])) (by intro t k; exact XS.iloadN X3.here hx rfl (hb hby d10_11) rfl k) ?_
  refine go (T' := T3) (f' := (mkF m 13 #[.val (.ref a0), .val (.int (1 : Int32)), .val (.int (0 : Int32))] [(.int (0 : Int32)), (.int (1 : Int32)), (.ref bp)])) (by intro t k; exact XS.iloadN X3.here hx rfl (hb hby d10_12) rfl k) ?_
  obtain ⟨cl4, Ar4, hin4⟩ := Ary.st (j := (1 : Int32)) A2_bp (by decide) (by show (1 : Int32).toNatClampNeg < 2; decide)
  obtain ⟨T4, h4, X4, e4, W4, st4⟩ := stI X3 hx hZ e3 Ar4 (j := (1 : Int32)) hin4 (g := (mkF m 13 #[.val (.ref a0), .val (.int (1 : Int32)), .val (.int (0 : Int32))] [(.int (0 : Int32)), (.int (1 : Int32)), (.ref bp)])) rfl rfl (hb hby d10_13)
  have K4 : Keep h2 h4 [bp] := Keep.of_wr W4
  have V4 : Ary Z h4 bp .int [(.int (-1 : Int32)), (.int (0 : Int32))] := Ary.set A2_bp W4 rfl
  have N4 := Fr.snoc X4 N2 gp
  have E4_a0 := Exa.keep E2_a0 K4
  have F4_a0_heap := Fld.keep F2_a0_heap K4 (ninS n0p nin0)
  have F4_a0_priorities := Fld.keep F2_a0_priorities K4 (ninS n0p nin0)
  have F4_a0_places := Fld.keep F2_a0_places K4 (ninS n0p nin0)
  have F4_a0_size := Fld.keep F2_a0_size K4 (ninS n0p nin0)
  have F4_a0_taken := Fld.keep F2_a0_taken K4 (ninS n0p nin0)
  have A4_bh := Ary.keep V2 K4 (ninS nhp nin0)
  have A4_bd := Ary.keep A2_bd K4 (ninS ndp nin0)
  have Z4 : n0 ≤ h4.size := Nat.le_trans Z2 K4.1
  have KK4 : Keep h0 h4 [a0, bh, bd, bp] := KK2.trans K4 (allS (Or.inl (List.mem_of_getElem? (i := 3) rfl)) all0)
  refine go st4 ?_
  show Run _ _ _ _ _ _ _ T4 (mkF m 14 #[.val (.ref a0), .val (.int (1 : Int32)), .val (.int (0 : Int32))] [])
  refine retV X4 hx Bd.returns (hb hby d10_14) hlk (by decide) (by decide) ?_
  show Q10t18 Z a0 bh bd bp x0 x1 h0 n0 _ T4.heap _
  rw [e4]
  exact ⟨rfl, N4, KK4, ⟨E4_a0, F4_a0_heap, F4_a0_priorities, F4_a0_places, F4_a0_size, F4_a0_taken, A4_bh, A4_bd, V4, g0, gh, gd, gp, n0h, n0d, n0p, nhd, nhp, ndp⟩⟩
theorem ef_9t17 (m : MethodId) (x0 : Addr) : entryFrame m #[(.ref x0), (.int (0 : Int32))] 5 = mkF m 0 #[.val (.ref x0), .val (.int (0 : Int32)), .unset, .unset, .unset] [] := by first | (simp [entryFrame, mkF, argsToLocals, Value.category]; done) | rfl
def Q9t17 (Z : State) (a0 : Addr) (bh bd bp : Addr) (x0 x1 : UInt64) (h0 : Heap) (n0 : Nat) (v : Option Value) (h : Heap) (L : List Loc) : Prop := v = none ∧ Fr n0 L ∧ Keep h0 h [a0, bh, bd, bp] ∧ own_st Z n0 h a0 bh bd bp (1 : Int32) (0 : Int32) (-1 : Int32) (0 : Int32) (1 : Int32) (0 : Int32) x0 x1
set_option maxRecDepth 65536 in
set_option maxHeartbeats 40000000 in
theorem rm9t17 (l : Launch) (Z : State) (aw : Array Value) (hw : ∀ d ∈ tables_1, d.before aw Z = true) (ws : List Jvm.Cond) (a0 : Addr) (bh bd bp : Addr) (x0 x1 : UInt64) (h0 : Heap) (n0 : Nat) (Z0 : n0 ≤ h0.size) (St : own_st Z n0 h0 a0 bh bd bp (1 : Int32) (0 : Int32) (-1 : Int32) (0 : Int32) (1 : Int32) (0 : Int32) x0 x1) :
    MetFree l msiftUp (head1 (Jvm.Cond.code msiftUp prog_64_method_7_code 5 none :: ws) rO1) (fun a U => a = #[(.ref a0), (.int (0 : Int32))] ∧ Z.Warmed39 U.vm ∧ U.heap = h0) (fun _ _ _ _ _ => True) (fun _ U o U' => ∃ v L, o = .returned v ∧ Q9t17 Z a0 bh bd bp x0 x1 h0 n0 v U'.heap L ∧ FrameEnd U o U' L rO1.cells rO1.slots) := by
  refine MetFree.of_bodySF (plainFor_of_name pn_1) hisR ?_
  intro p e s m args below meth c s₁ Bd hml0 hP hK
  obtain ⟨rfl, hZ, hh⟩ := hP
  have hx := Bd.exec
  have hby := Bd.bytes
  have hml : c.maxLocals = 5 := hml0
  have hown : s.vm.findClass "com/example/wayshard/wayshard/service/VertexQueue" = some m.cls := findClass_of_methodNamed Bd.named
  have hnm := (name_of_methodNamed Bd.named Bd.method).1
  have hlk : meth.locks = false := BodyLoose.notSynchronized Bd
  have X0 : Stand p l e rO1 s m #[(.ref a0), (.int (0 : Int32))] below meth c s₁ [] 0 0 := Stand.of_body Bd
  have e0 : s₁.heap = h0 := by rw [← hh, Bd.state]; rfl
  have N0 := Fr.nil n0
  show Run p e s below (Q9t17 Z a0 bh bd bp x0 x1 h0 n0) rO1.cells rO1.slots s₁ (entryFrame m #[(.ref a0), (.int (0 : Int32))] 5)
  rw [ef_9t17]
  obtain ⟨E, Fh, Fd, Fp, Fs, Ft, Ah, Ad, Ap, g0, gh, gd, gp, n0h, n0d, n0p, nhd, nhp, ndp⟩ := St
  show Run _ _ _ _ _ _ _ s₁ (mkF m 0 #[.val (.ref a0), .val (.int (0 : Int32)), .unset, .unset, .unset] [])
  refine go (T' := s₁) (f' := (mkF m 1 #[.val (.ref a0), .val (.int (0 : Int32)), .unset, .unset, .unset] [(.ref a0)])) (by intro t k; exact XS.aloadN X0.here hx rfl (hb hby d9_0) rfl rfl k) ?_
  obtain ⟨T1, X1, e1, st1⟩ := getF X0 hx hZ hown (host := "") (Or.inl (tw hw 10 rfl)) Via.refl e0 Fh (g := (mkF m 1 #[.val (.ref a0), .val (.int (0 : Int32)), .unset, .unset, .unset] [(.ref a0)])) rfl rfl (hb hby d9_1)
  refine go st1 ?_
  show Run _ _ _ _ _ _ _ T1 (mkF m 4 #[.val (.ref a0), .val (.int (0 : Int32)), .unset, .unset, .unset] [(.ref bh)])
  refine go (T' := T1) (f' := (mkF m 5 #[.val (.ref a0), .val (.int (0 : Int32)), .unset, .unset, .unset] [(.int (0 : Int32)), (.ref bh)])) (by intro t k; exact XS.iloadN X1.here hx rfl (hb hby d9_4) rfl k) ?_
  refine go (T' := T1) (f' := (mkF m 6 #[.val (.ref a0), .val (.int (0 : Int32)), .unset, .unset, .unset] [(.int (1 : Int32))])) (by intro t k; exact ldI X1 hx hZ e1 Ah (j := (0 : Int32)) (v := (.int (1 : Int32))) (by decide) rfl (g := (mkF m 5 #[.val (.ref a0), .val (.int (0 : Int32)), .unset, .unset, .unset] [(.int (0 : Int32)), (.ref bh)])) rfl rfl (hb hby d9_5) _ k) ?_
  refine go (T' := T1) (f' := (mkF m 7 #[.val (.ref a0), .val (.int (0 : Int32)), .val (.int (1 : Int32)), .unset, .unset] [])) (by intro t k; exact XS.istoreN X1.here hx rfl (hb hby d9_6) rfl (l' := #[.val (.ref a0), .val (.int (0 : Int32)), .val (.int (1 : Int32)), .unset, .unset]) rfl k) ?_
  refine go (T' := T1) (f' := (mkF m 8 #[.val (.ref a0), .val (.int (0 : Int32)), .val (.int (1 : Int32)), .unset, .unset] [(.int (0 : Int32))])) (by intro t k; exact XS.iloadN X1.here hx rfl (hb hby d9_7) rfl k) ?_
  refine go (T' := T1) (f' := (mkF m 9 #[.val (.ref a0), .val (.int (0 : Int32)), .val (.int (1 : Int32)), .val (.int (0 : Int32)), .unset] [])) (by intro t k; exact XS.istoreN X1.here hx rfl (hb hby d9_8) rfl (l' := #[.val (.ref a0), .val (.int (0 : Int32)), .val (.int (1 : Int32)), .val (.int (0 : Int32)), .unset]) rfl k) ?_
  refine go (T' := T1) (f' := (mkF m 10 #[.val (.ref a0), .val (.int (0 : Int32)), .val (.int (1 : Int32)), .val (.int (0 : Int32)), .unset] [(.int (0 : Int32))])) (by intro t k; exact XS.iloadN X1.here hx rfl (hb hby d9_9) rfl k) ?_
  refine go (T' := T1) (f' := (mkF m 63 #[.val (.ref a0), .val (.int (0 : Int32)), .val (.int (1 : Int32)), .val (.int (0 : Int32)), .unset] [])) (by intro t k; exact XS.ifYes X1.here hx rfl (pc0 := 10) (pc' := 63) rfl (hb hby d9_10) rfl ((if0 _ _).trans (flt (by decide : ¬ ((0 : Int32) < (0 : Int32)))).2.2.2) (by decide) (by decide) k) ?_
  refine go (T' := T1) (f' := (mkF m 64 #[.val (.ref a0), .val (.int (0 : Int32)), .val (.int (1 : Int32)), .val (.int (0 : Int32)), .unset] [(.ref a0)])) (by intro t k; exact XS.aloadN X1.here hx rfl (hb hby d9_63) rfl rfl k) ?_
  refine go (T' := T1) (f' := (mkF m 65 #[.val (.ref a0), .val (.int (0 : Int32)), .val (.int (1 : Int32)), .val (.int (0 : Int32)), .unset] [(.int (1 : Int32)), (.ref a0)])) (by intro t k; exact XS.iloadN X1.here hx rfl (hb hby d9_64) rfl k) ?_
  refine go (T' := T1) (f' := (mkF m 66 #[.val (.ref a0), .val (.int (0 : Int32)), .val (.int (1 : Int32)), .val (.int (0 : Int32)), .unset] [(.int (0 : Int32)), (.int (1 : Int32)), (.ref a0)])) (by intro t k; exact XS.iloadN X1.here hx rfl (hb hby d9_65) rfl k) ?_
  obtain ⟨cq2, q2, q2'⟩ := (E).cell
  obtain ⟨_, _, ⟨T2, Lz2, kz2, nz2⟩, -, X2, ⟨Lc2, hQ2, lz2, yz2, zz2⟩, st2⟩ := X1.privateBack hx (y := mmove) hown (mvT hZ (tw hw 53 rfl)) (mvT hZ (tw hw 54 rfl)) (selP (y := mmove) (mvT hZ (tw hw 1 rfl)) (Cond.privateMethod_at (mvP hZ (tw hw 55 rfl) (args := #[]))) (mvT hZ (tw hw 54 rfl)) (by decide)) (Cond.privateMethod_at (mvP hZ (tw hw 55 rfl) (args := #[]))) (mvT hZ (tw hw 56 rfl)) (by decide) (backOf (W := 0) (rm10t18 l Z aw hw [] a0 bh bd bp x0 x1  h0 n0 Z0 ⟨E, Fh, Fd, Fp, Fs, Ft, Ah, Ad, Ap, g0, gh, gd, gp, n0h, n0d, n0p, nhd, nhp, ndp⟩) hZ (tw hw 56 rfl) (tw hw 2 rfl) (by decide) (by decide)) (g := (mkF m 66 #[.val (.ref a0), .val (.int (0 : Int32)), .val (.int (1 : Int32)), .val (.int (0 : Int32)), .unset] [(.int (0 : Int32)), (.int (1 : Int32)), (.ref a0)])) rfl (by rw [hml]; rfl) (Steps.refl _) (a := a0) (by rw [e1]; exact q2) q2' (argsL := [(.int (1 : Int32)), (.int (0 : Int32))]) (rest := []) (lenOf pd_28II29V rfl) rfl (by show 2 * 0 + _ ≤ _; exact Nat.le_of_eq rfl) (hb hby d9_66) (fun _ _ => ⟨rfl, e1, (by decide : 0 + 0 ≤ _), (by decide : 0 + 0 ≤ _)⟩)
  dsimp only [Pt.U, Pt.locs, Pt.cells, Pt.slots] at X2 lz2 yz2 zz2 st2 hQ2
  subst lz2 yz2 zz2
  obtain ⟨rfl, N2q, K2, hD2⟩ := hQ2
  have E2_a0 := Exa.keep E K2
  have Z2 : n0 ≤ T2.heap.size := Nat.le_trans Z0 K2.1
  have KK2 : Keep h0 T2.heap [a0, bh, bd, bp] := (Keep.refl _ _).trans K2 (allS (Or.inl (List.mem_of_getElem? (i := 0) rfl)) (allS (Or.inl (List.mem_of_getElem? (i := 1) rfl)) (allS (Or.inl (List.mem_of_getElem? (i := 2) rfl)) (allS (Or.inl (List.mem_of_getElem? (i := 3) rfl)) all0))))
  obtain ⟨E2, Fh2, Fd2, Fp2, Fs2, Ft2, Ah2, Ad2, Ap2, g02, gh2, gd2, gp2, n0h2, n0d2, n0p2, nhd2, nhp2, ndp2⟩ := hD2
  have N2 := Fr.app N0 N2q
  refine go (fun _ k => st2.trans k) ?_
  show Run _ _ _ _ _ _ _ T2 (mkF m 69 #[.val (.ref a0), .val (.int (0 : Int32)), .val (.int (1 : Int32)), .val (.int (0 : Int32)), .unset] [])
  refine retV X2 hx Bd.returns (hb hby d9_69) hlk (by decide) (by decide) ?_
  show Q9t17 Z a0 bh bd bp x0 x1 h0 n0 _ T2.heap _
  exact ⟨rfl, N2, KK2, ⟨E2, Fh2, Fd2, Fp2, Fs2, Ft2, Ah2, Ad2, Ap2, g02, gh2, gd2, gp2, n0h2, n0d2, n0p2, nhd2, nhp2, ndp2⟩⟩
theorem ef_8t16 (m : MethodId) (x0 : Addr) (x2 : UInt64) : entryFrame m #[(.ref x0), (.int (1 : Int32)), (.double x2)] 5 = mkF m 0 #[.val (.ref x0), .val (.int (1 : Int32)), .val (.double x2), .second, .unset] [] := by first | (simp [entryFrame, mkF, argsToLocals, Value.category]; done) | rfl
def Q8t16 (Z : State) (a0 : Addr) (d2 : UInt64) (bh bd bp : Addr) (x0 x1 : UInt64) (h0 : Heap) (n0 : Nat) (v : Option Value) (h : Heap) (L : List Loc) : Prop := v = none ∧ Fr n0 L ∧ Keep h0 h [a0, bh, bd, bp] ∧ own_st Z n0 h a0 bh bd bp (1 : Int32) (0 : Int32) (-1 : Int32) (0 : Int32) (1 : Int32) (0 : Int32) x0 d2
set_option maxRecDepth 65536 in
set_option maxHeartbeats 40000000 in
theorem rm8t16 (l : Launch) (Z : State) (aw : Array Value) (hw : ∀ d ∈ tables_1, d.before aw Z = true) (ws : List Jvm.Cond) (a0 : Addr) (d2 : UInt64) (bh bd bp : Addr) (x0 x1 : UInt64) (h0 : Heap) (n0 : Nat) (Z0 : n0 ≤ h0.size) (St : own_st Z n0 h0 a0 bh bd bp (0 : Int32) (0 : Int32) (-1 : Int32) (-1 : Int32) (0 : Int32) (0 : Int32) x0 x1) :
    MetFree l moffer (head1 (Jvm.Cond.code moffer prog_64_method_5_code 5 none :: ws) rO3) (fun a U => a = #[(.ref a0), (.int (1 : Int32)), (.double d2)] ∧ Z.Warmed39 U.vm ∧ U.heap = h0) (fun _ _ _ _ _ => True) (fun _ U o U' => ∃ v L, o = .returned v ∧ Q8t16 Z a0 d2 bh bd bp x0 x1 h0 n0 v U'.heap L ∧ FrameEnd U o U' L rO3.cells rO3.slots) := by
  refine MetFree.of_bodySF (plainFor_of_name pn_1) hisR ?_
  intro p e s m args below meth c s₁ Bd hml0 hP hK
  obtain ⟨rfl, hZ, hh⟩ := hP
  have hx := Bd.exec
  have hby := Bd.bytes
  have hml : c.maxLocals = 5 := hml0
  have hown : s.vm.findClass "com/example/wayshard/wayshard/service/VertexQueue" = some m.cls := findClass_of_methodNamed Bd.named
  have hnm := (name_of_methodNamed Bd.named Bd.method).1
  have hlk : meth.locks = false := BodyLoose.notSynchronized Bd
  have X0 : Stand p l e rO3 s m #[(.ref a0), (.int (1 : Int32)), (.double d2)] below meth c s₁ [] 0 0 := Stand.of_body Bd
  have e0 : s₁.heap = h0 := by rw [← hh, Bd.state]; rfl
  have N0 := Fr.nil n0
  show Run p e s below (Q8t16 Z a0 d2 bh bd bp x0 x1 h0 n0) rO3.cells rO3.slots s₁ (entryFrame m #[(.ref a0), (.int (1 : Int32)), (.double d2)] 5)
  rw [ef_8t16]
  obtain ⟨E, Fh, Fd, Fp, Fs, Ft, Ah, Ad, Ap, g0, gh, gd, gp, n0h, n0d, n0p, nhd, nhp, ndp⟩ := St
  show Run _ _ _ _ _ _ _ s₁ (mkF m 0 #[.val (.ref a0), .val (.int (1 : Int32)), .val (.double d2), .second, .unset] [])
  refine go (T' := s₁) (f' := (mkF m 1 #[.val (.ref a0), .val (.int (1 : Int32)), .val (.double d2), .second, .unset] [(.ref a0)])) (by intro t k; exact XS.aloadN X0.here hx rfl (hb hby d8_0) rfl rfl k) ?_
  obtain ⟨T1, X1, e1, st1⟩ := getF X0 hx hZ hown (host := "") (Or.inl (tw hw 15 rfl)) Via.refl e0 Fp (g := (mkF m 1 #[.val (.ref a0), .val (.int (1 : Int32)), .val (.double d2), .second, .unset] [(.ref a0)])) rfl rfl (hb hby d8_1)
  refine go st1 ?_
  show Run _ _ _ _ _ _ _ T1 (mkF m 4 #[.val (.ref a0), .val (.int (1 : Int32)), .val (.double d2), .second, .unset] [(.ref bp)])
  refine go (T' := T1) (f' := (mkF m 5 #[.val (.ref a0), .val (.int (1 : Int32)), .val (.double d2), .second, .unset] [(.int (1 : Int32)), (.ref bp)])) (by intro t k; exact XS.iloadN X1.here hx rfl (hb hby d8_4) rfl k) ?_
  refine go (T' := T1) (f' := (mkF m 6 #[.val (.ref a0), .val (.int (1 : Int32)), .val (.double d2), .second, .unset] [(.int (-1 : Int32))])) (by intro t k; exact ldI X1 hx hZ e1 Ap (j := (1 : Int32)) (v := (.int (-1 : Int32))) (by decide) rfl (g := (mkF m 5 #[.val (.ref a0), .val (.int (1 : Int32)), .val (.double d2), .second, .unset] [(.int (1 : Int32)), (.ref bp)])) rfl rfl (hb hby d8_5) _ k) ?_
  refine go (T' := T1) (f' := (mkF m 8 #[.val (.ref a0), .val (.int (1 : Int32)), .val (.double d2), .second, .val (.int (-1 : Int32))] [])) (by intro t k; exact XS.istore X1.here hx rfl (hb hby d8_6) rfl (l' := #[.val (.ref a0), .val (.int (1 : Int32)), .val (.double d2), .second, .val (.int (-1 : Int32))]) rfl k) ?_
  refine go (T' := T1) (f' := (mkF m 9 #[.val (.ref a0), .val (.int (1 : Int32)), .val (.double d2), .second, .val (.int (-1 : Int32))] [(.ref a0)])) (by intro t k; exact XS.aloadN X1.here hx rfl (hb hby d8_8) rfl rfl k) ?_
  obtain ⟨T2, X2, e2, st2⟩ := getF X1 hx hZ hown (host := "") (Or.inl (tw hw 13 rfl)) Via.refl e1 Fd (g := (mkF m 9 #[.val (.ref a0), .val (.int (1 : Int32)), .val (.double d2), .second, .val (.int (-1 : Int32))] [(.ref a0)])) rfl rfl (hb hby d8_9)
  refine go st2 ?_
  show Run _ _ _ _ _ _ _ T2 (mkF m 12 #[.val (.ref a0), .val (.int (1 : Int32)), .val (.double d2), .second, .val (.int (-1 : Int32))] [(.ref bd)])
  refine go (T' := T2) (f' := (mkF m 13 #[.val (.ref a0), .val (.int (1 : Int32)), .val (.double d2), .second, .val (.int (-1 : Int32))] [(.int (1 : Int32)), (.ref bd)])) (by intro t k; exact XS.iloadN X2.here hx rfl (hb hby d8_12) rfl k) ?_
  refine go (T' := T2) (f' := (mkF m 14 #[.val (.ref a0), .val (.int (1 : Int32)), .val (.double d2), .second, .val (.int (-1 : Int32))] [(.double d2), (.int (1 : Int32)), (.ref bd)])) (by intro t k; exact XS.dloadN X2.here hx rfl (hb hby d8_13) rfl k) ?_
  obtain ⟨cl3, Ar3, hin3⟩ := Ary.st (j := (1 : Int32)) Ad (by decide) (by show (1 : Int32).toNatClampNeg < 2; decide)
  obtain ⟨T3, h3, X3, e3, W3, st3⟩ := stD X2 hx hZ e2 Ar3 (j := (1 : Int32)) hin3 (g := (mkF m 14 #[.val (.ref a0), .val (.int (1 : Int32)), .val (.double d2), .second, .val (.int (-1 : Int32))] [(.double d2), (.int (1 : Int32)), (.ref bd)])) rfl rfl (hb hby d8_14)
  have K3 : Keep h0 h3 [bd] := Keep.of_wr W3
  have V3 : Ary Z h3 bd .double [(.double x0), (.double d2)] := Ary.set Ad W3 rfl
  have N3 := Fr.snoc X3 N0 gd
  have E3_a0 := Exa.keep E K3
  have F3_a0_heap := Fld.keep Fh K3 (ninS n0d nin0)
  have F3_a0_priorities := Fld.keep Fd K3 (ninS n0d nin0)
  have F3_a0_places := Fld.keep Fp K3 (ninS n0d nin0)
  have F3_a0_size := Fld.keep Fs K3 (ninS n0d nin0)
  have F3_a0_taken := Fld.keep Ft K3 (ninS n0d nin0)
  have A3_bh := Ary.keep Ah K3 (ninS nhd nin0)
  have A3_bp := Ary.keep Ap K3 (ninS (Ne.symm ndp) nin0)
  have Z3 : n0 ≤ h3.size := Nat.le_trans Z0 K3.1
  have KK3 : Keep h0 h3 [a0, bh, bd, bp] := (Keep.refl _ _).trans K3 (allS (Or.inl (List.mem_of_getElem? (i := 2) rfl)) all0)
  refine go st3 ?_
  show Run _ _ _ _ _ _ _ T3 (mkF m 15 #[.val (.ref a0), .val (.int (1 : Int32)), .val (.double d2), .second, .val (.int (-1 : Int32))] [])
  refine go (T' := T3) (f' := (mkF m 17 #[.val (.ref a0), .val (.int (1 : Int32)), .val (.double d2), .second, .val (.int (-1 : Int32))] [(.int (-1 : Int32))])) (by intro t k; exact XS.iload X3.here hx rfl (hb hby d8_15) rfl k) ?_
  refine go (T' := T3) (f' := (mkF m 18 #[.val (.ref a0), .val (.int (1 : Int32)), .val (.double d2), .second, .val (.int (-1 : Int32))] [(.int (-1 : Int32)), (.int (-1 : Int32))])) (by intro t k; exact XS.iconst X3.here hx rfl (hb hby d8_17) k) ?_
  refine go (T' := T3) (f' := (mkF m 21 #[.val (.ref a0), .val (.int (1 : Int32)), .val (.double d2), .second, .val (.int (-1 : Int32))] [])) (by intro t k; exact XS.icmpNo X3.here hx rfl (hb hby d8_18) rfl (teq (rfl : (-1 : Int32) = (-1 : Int32))).2 k) ?_
  refine go (T' := T3) (f' := (mkF m 22 #[.val (.ref a0), .val (.int (1 : Int32)), .val (.double d2), .second, .val (.int (-1 : Int32))] [(.ref a0)])) (by intro t k; exact XS.aloadN X3.here hx rfl (hb hby d8_21) rfl rfl k) ?_
  obtain ⟨T4, X4, e4, st4⟩ := getF X3 hx hZ hown (host := "") (Or.inl (tw hw 10 rfl)) Via.refl e3 F3_a0_heap (g := (mkF m 22 #[.val (.ref a0), .val (.int (1 : Int32)), .val (.double d2), .second, .val (.int (-1 : Int32))] [(.ref a0)])) rfl rfl (hb hby d8_22)
  refine go st4 ?_
  show Run _ _ _ _ _ _ _ T4 (mkF m 25 #[.val (.ref a0), .val (.int (1 : Int32)), .val (.double d2), .second, .val (.int (-1 : Int32))] [(.ref bh)])
  refine go (T' := T4) (f' := (mkF m 26 #[.val (.ref a0), .val (.int (1 : Int32)), .val (.double d2), .second, .val (.int (-1 : Int32))] [(.ref a0), (.ref bh)])) (by intro t k; exact XS.aloadN X4.here hx rfl (hb hby d8_25) rfl rfl k) ?_
  obtain ⟨T5, X5, e5, st5⟩ := getF X4 hx hZ hown (host := "") (Or.inl (tw hw 30 rfl)) Via.refl e4 F3_a0_size (g := (mkF m 26 #[.val (.ref a0), .val (.int (1 : Int32)), .val (.double d2), .second, .val (.int (-1 : Int32))] [(.ref a0), (.ref bh)])) rfl rfl (hb hby d8_26)
  refine go st5 ?_
  show Run _ _ _ _ _ _ _ T5 (mkF m 29 #[.val (.ref a0), .val (.int (1 : Int32)), .val (.double d2), .second, .val (.int (-1 : Int32))] [(.int (0 : Int32)), (.ref bh)])
  refine go (T' := T5) (f' := (mkF m 30 #[.val (.ref a0), .val (.int (1 : Int32)), .val (.double d2), .second, .val (.int (-1 : Int32))] [(.int (1 : Int32)), (.int (0 : Int32)), (.ref bh)])) (by intro t k; exact XS.iloadN X5.here hx rfl (hb hby d8_29) rfl k) ?_
  obtain ⟨cl6, Ar6, hin6⟩ := Ary.st (j := (0 : Int32)) A3_bh (by decide) (by show (0 : Int32).toNatClampNeg < 2; decide)
  obtain ⟨T6, h6, X6, e6, W6, st6⟩ := stI X5 hx hZ e5 Ar6 (j := (0 : Int32)) hin6 (g := (mkF m 30 #[.val (.ref a0), .val (.int (1 : Int32)), .val (.double d2), .second, .val (.int (-1 : Int32))] [(.int (1 : Int32)), (.int (0 : Int32)), (.ref bh)])) rfl rfl (hb hby d8_30)
  have K6 : Keep h3 h6 [bh] := Keep.of_wr W6
  have V6 : Ary Z h6 bh .int [(.int (1 : Int32)), (.int (0 : Int32))] := Ary.set A3_bh W6 rfl
  have N6 := Fr.snoc X6 N3 gh
  have E6_a0 := Exa.keep E3_a0 K6
  have F6_a0_heap := Fld.keep F3_a0_heap K6 (ninS n0h nin0)
  have F6_a0_priorities := Fld.keep F3_a0_priorities K6 (ninS n0h nin0)
  have F6_a0_places := Fld.keep F3_a0_places K6 (ninS n0h nin0)
  have F6_a0_size := Fld.keep F3_a0_size K6 (ninS n0h nin0)
  have F6_a0_taken := Fld.keep F3_a0_taken K6 (ninS n0h nin0)
  have A6_bd := Ary.keep V3 K6 (ninS (Ne.symm nhd) nin0)
  have A6_bp := Ary.keep A3_bp K6 (ninS (Ne.symm nhp) nin0)
  have Z6 : n0 ≤ h6.size := Nat.le_trans Z3 K6.1
  have KK6 : Keep h0 h6 [a0, bh, bd, bp] := KK3.trans K6 (allS (Or.inl (List.mem_of_getElem? (i := 1) rfl)) all0)
  refine go st6 ?_
  show Run _ _ _ _ _ _ _ T6 (mkF m 31 #[.val (.ref a0), .val (.int (1 : Int32)), .val (.double d2), .second, .val (.int (-1 : Int32))] [])
  refine go (T' := T6) (f' := (mkF m 32 #[.val (.ref a0), .val (.int (1 : Int32)), .val (.double d2), .second, .val (.int (-1 : Int32))] [(.ref a0)])) (by intro t k; exact XS.aloadN X6.here hx rfl (hb hby d8_31) rfl rfl k) ?_
  obtain ⟨T7, X7, e7, st7⟩ := getF X6 hx hZ hown (host := "") (Or.inl (tw hw 15 rfl)) Via.refl e6 F6_a0_places (g := (mkF m 32 #[.val (.ref a0), .val (.int (1 : Int32)), .val (.double d2), .second, .val (.int (-1 : Int32))] [(.ref a0)])) rfl rfl (hb hby d8_32)
  refine go st7 ?_
  show Run _ _ _ _ _ _ _ T7 (mkF m 35 #[.val (.ref a0), .val (.int (1 : Int32)), .val (.double d2), .second, .val (.int (-1 : Int32))] [(.ref bp)])
  refine go (T' := T7) (f' := (mkF m 36 #[.val (.ref a0), .val (.int (1 : Int32)), .val (.double d2), .second, .val (.int (-1 : Int32))] [(.int (1 : Int32)), (.ref bp)])) (by intro t k; exact XS.iloadN X7.here hx rfl (hb hby d8_35) rfl k) ?_
  refine go (T' := T7) (f' := (mkF m 37 #[.val (.ref a0), .val (.int (1 : Int32)), .val (.double d2), .second, .val (.int (-1 : Int32))] [(.ref a0), (.int (1 : Int32)), (.ref bp)])) (by intro t k; exact XS.aloadN X7.here hx rfl (hb hby d8_36) rfl rfl k) ?_
  obtain ⟨T8, X8, e8, st8⟩ := getF X7 hx hZ hown (host := "") (Or.inl (tw hw 30 rfl)) Via.refl e7 F6_a0_size (g := (mkF m 37 #[.val (.ref a0), .val (.int (1 : Int32)), .val (.double d2), .second, .val (.int (-1 : Int32))] [(.ref a0), (.int (1 : Int32)), (.ref bp)])) rfl rfl (hb hby d8_37)
  refine go st8 ?_
  show Run _ _ _ _ _ _ _ T8 (mkF m 40 #[.val (.ref a0), .val (.int (1 : Int32)), .val (.double d2), .second, .val (.int (-1 : Int32))] [(.int (0 : Int32)), (.int (1 : Int32)), (.ref bp)])
  obtain ⟨cl9, Ar9, hin9⟩ := Ary.st (j := (1 : Int32)) A6_bp (by decide) (by show (1 : Int32).toNatClampNeg < 2; decide)
  obtain ⟨T9, h9, X9, e9, W9, st9⟩ := stI X8 hx hZ e8 Ar9 (j := (1 : Int32)) hin9 (g := (mkF m 40 #[.val (.ref a0), .val (.int (1 : Int32)), .val (.double d2), .second, .val (.int (-1 : Int32))] [(.int (0 : Int32)), (.int (1 : Int32)), (.ref bp)])) rfl rfl (hb hby d8_40)
  have K9 : Keep h6 h9 [bp] := Keep.of_wr W9
  have V9 : Ary Z h9 bp .int [(.int (-1 : Int32)), (.int (0 : Int32))] := Ary.set A6_bp W9 rfl
  have N9 := Fr.snoc X9 N6 gp
  have E9_a0 := Exa.keep E6_a0 K9
  have F9_a0_heap := Fld.keep F6_a0_heap K9 (ninS n0p nin0)
  have F9_a0_priorities := Fld.keep F6_a0_priorities K9 (ninS n0p nin0)
  have F9_a0_places := Fld.keep F6_a0_places K9 (ninS n0p nin0)
  have F9_a0_size := Fld.keep F6_a0_size K9 (ninS n0p nin0)
  have F9_a0_taken := Fld.keep F6_a0_taken K9 (ninS n0p nin0)
  have A9_bh := Ary.keep V6 K9 (ninS nhp nin0)
  have A9_bd := Ary.keep A6_bd K9 (ninS ndp nin0)
  have Z9 : n0 ≤ h9.size := Nat.le_trans Z6 K9.1
  have KK9 : Keep h0 h9 [a0, bh, bd, bp] := KK6.trans K9 (allS (Or.inl (List.mem_of_getElem? (i := 3) rfl)) all0)
  refine go st9 ?_
  show Run _ _ _ _ _ _ _ T9 (mkF m 41 #[.val (.ref a0), .val (.int (1 : Int32)), .val (.double d2), .second, .val (.int (-1 : Int32))] [])
  refine go (T' := T9) (f' := (mkF m 42 #[.val (.ref a0), .val (.int (1 : Int32)), .val (.double d2), .second, .val (.int (-1 : Int32))] [(.ref a0)])) (by intro t k; exact XS.aloadN X9.here hx rfl (hb hby d8_41) rfl rfl k) ?_
  refine go (T' := T9) (f' := (mkF m 43 #[.val (.ref a0), .val (.int (1 : Int32)), .val (.double d2), .second, .val (.int (-1 : Int32))] [(.ref a0), (.ref a0)])) (by intro t k; exact XS.aloadN X9.here hx rfl (hb hby d8_42) rfl rfl k) ?_
  refine go (T' := T9) (f' := (mkF m 44 #[.val (.ref a0), .val (.int (1 : Int32)), .val (.double d2), .second, .val (.int (-1 : Int32))] [(.ref a0), (.ref a0), (.ref a0)])) (by intro t k; exact XS.dup X9.here hx rfl (hb hby d8_43) rfl rfl k) ?_
  obtain ⟨T10, X10, e10, st10⟩ := getF X9 hx hZ hown (host := "") (Or.inl (tw hw 30 rfl)) Via.refl e9 F9_a0_size (g := (mkF m 44 #[.val (.ref a0), .val (.int (1 : Int32)), .val (.double d2), .second, .val (.int (-1 : Int32))] [(.ref a0), (.ref a0), (.ref a0)])) rfl rfl (hb hby d8_44)
  refine go st10 ?_
  show Run _ _ _ _ _ _ _ T10 (mkF m 47 #[.val (.ref a0), .val (.int (1 : Int32)), .val (.double d2), .second, .val (.int (-1 : Int32))] [(.int (0 : Int32)), (.ref a0), (.ref a0)])
  refine go (T' := T10) (f' := (mkF m 48 #[.val (.ref a0), .val (.int (1 : Int32)), .val (.double d2), .second, .val (.int (-1 : Int32))] [(.int (0 : Int32)), (.ref a0), (.int (0 : Int32)), (.ref a0)])) (by intro t k; exact XS.dupX1 X10.here hx rfl (hb hby d8_47) rfl rfl rfl k) ?_
  refine go (T' := T10) (f' := (mkF m 49 #[.val (.ref a0), .val (.int (1 : Int32)), .val (.double d2), .second, .val (.int (-1 : Int32))] [(.int (1 : Int32)), (.int (0 : Int32)), (.ref a0), (.int (0 : Int32)), (.ref a0)])) (by intro t k; exact XS.iconst X10.here hx rfl (hb hby d8_48) k) ?_
  refine go (T' := T10) (f' := (mkF m 50 #[.val (.ref a0), .val (.int (1 : Int32)), .val (.double d2), .second, .val (.int (-1 : Int32))] [(.int (1 : Int32)), (.ref a0), (.int (0 : Int32)), (.ref a0)])) (by intro t k; exact XS.iadd X10.here hx rfl (hb hby d8_49) rfl k) ?_
  obtain ⟨T11, h11, X11, e11, W11, st11⟩ := putF X10 hx hZ hown (host := "") (Or.inl (tw hw 30 rfl)) Via.refl e10 F9_a0_size E9_a0 (Or.inl (tw hw 31 rfl)) (tw hw 1 rfl) (ty := .int) (by decide) rfl rfl (g := (mkF m 50 #[.val (.ref a0), .val (.int (1 : Int32)), .val (.double d2), .second, .val (.int (-1 : Int32))] [(.int (1 : Int32)), (.ref a0), (.int (0 : Int32)), (.ref a0)])) rfl rfl (hb hby d8_50)
  have K11 : Keep h9 h11 [a0] := Keep.of_wr W11
  have F11_a0_heap := Fld.other W11 F9_a0_heap (Or.inr (slot_ne (Or.inr (tw hw 11 rfl)) (Or.inl (tw hw 31 rfl)) (by decide) (t := (.array .int)) (t' := .int) (by decide) (by decide)))
  have F11_a0_priorities := Fld.other W11 F9_a0_priorities (Or.inr (slot_ne (Or.inr (tw hw 14 rfl)) (Or.inl (tw hw 31 rfl)) (by decide) (t := (.array .double)) (t' := .int) (by decide) (by decide)))
  have F11_a0_places := Fld.other W11 F9_a0_places (Or.inr (slot_ne (Or.inr (tw hw 16 rfl)) (Or.inl (tw hw 31 rfl)) (by decide) (t := (.array .int)) (t' := .int) (by decide) (by decide)))
  have F11_a0_size : Fld Z h11 a0 "com/example/wayshard/wayshard/service/VertexQueue" "size" "I" (.int (1 : Int32)) := F9_a0_size.same W11
  have F11_a0_taken := Fld.other W11 F9_a0_taken (Or.inr (slot_ne (Or.inl (tw hw 33 rfl)) (Or.inl (tw hw 31 rfl)) (by decide) (t := .int) (t' := .int) (by decide) (by decide)))
  have N11 := Fr.snoc X11 N9 g0
  have E11_a0 := Exa.keep E9_a0 K11
  have A11_bh := Ary.keep A9_bh K11 (ninS (Ne.symm n0h) nin0)
  have A11_bd := Ary.keep A9_bd K11 (ninS (Ne.symm n0d) nin0)
  have A11_bp := Ary.keep V9 K11 (ninS (Ne.symm n0p) nin0)
  have Z11 : n0 ≤ h11.size := Nat.le_trans Z9 K11.1
  have KK11 : Keep h0 h11 [a0, bh, bd, bp] := KK9.trans K11 (allS (Or.inl (List.mem_of_getElem? (i := 0) rfl)) all0)
  refine go st11 ?_
  show Run _ _ _ _ _ _ _ T11 (mkF m 53 #[.val (.ref a0), .val (.int (1 : Int32)), .val (.double d2), .second, .val (.int (-1 : Int32))] [(.int (0 : Int32)), (.ref a0)])
  obtain ⟨cq12, q12, q12'⟩ := (E11_a0).cell
  obtain ⟨_, _, ⟨T12, Lz12, kz12, nz12⟩, -, X12, ⟨Lc12, hQ12, lz12, yz12, zz12⟩, st12⟩ := X11.privateBack hx (y := msiftUp) hown (mvT hZ (tw hw 49 rfl)) (mvT hZ (tw hw 50 rfl)) (selP (y := msiftUp) (mvT hZ (tw hw 1 rfl)) (Cond.privateMethod_at (mvP hZ (tw hw 51 rfl) (args := #[]))) (mvT hZ (tw hw 50 rfl)) (by decide)) (Cond.privateMethod_at (mvP hZ (tw hw 51 rfl) (args := #[]))) (mvT hZ (tw hw 52 rfl)) (by decide) (backOf (W := 0) (rm9t17 l Z aw hw [] a0 bh bd bp x0 d2  h11 n0 Z11 ⟨E11_a0, F11_a0_heap, F11_a0_priorities, F11_a0_places, F11_a0_size, F11_a0_taken, A11_bh, A11_bd, A11_bp, g0, gh, gd, gp, n0h, n0d, n0p, nhd, nhp, ndp⟩) hZ (tw hw 52 rfl) (tw hw 2 rfl) (by decide) (by decide)) (g := (mkF m 53 #[.val (.ref a0), .val (.int (1 : Int32)), .val (.double d2), .second, .val (.int (-1 : Int32))] [(.int (0 : Int32)), (.ref a0)])) rfl (by rw [hml]; rfl) (Steps.refl _) (a := a0) (by rw [e11]; exact q12) q12' (argsL := [(.int (0 : Int32))]) (rest := []) (lenOf pd_28I29V rfl) rfl (by show 2 * 0 + _ ≤ _; exact Nat.le_of_eq rfl) (hb hby d8_53) (fun _ _ => ⟨rfl, e11, (by decide : 0 + 0 ≤ _), (by decide : 0 + 0 ≤ _)⟩)
  dsimp only [Pt.U, Pt.locs, Pt.cells, Pt.slots] at X12 lz12 yz12 zz12 st12 hQ12
  subst lz12 yz12 zz12
  obtain ⟨rfl, N12q, K12, hD12⟩ := hQ12
  have E12_a0 := Exa.keep E11_a0 K12
  have Z12 : n0 ≤ T12.heap.size := Nat.le_trans Z11 K12.1
  have KK12 : Keep h0 T12.heap [a0, bh, bd, bp] := KK11.trans K12 (allS (Or.inl (List.mem_of_getElem? (i := 0) rfl)) (allS (Or.inl (List.mem_of_getElem? (i := 1) rfl)) (allS (Or.inl (List.mem_of_getElem? (i := 2) rfl)) (allS (Or.inl (List.mem_of_getElem? (i := 3) rfl)) all0))))
  obtain ⟨E12, Fh12, Fd12, Fp12, Fs12, Ft12, Ah12, Ad12, Ap12, g012, gh12, gd12, gp12, n0h12, n0d12, n0p12, nhd12, nhp12, ndp12⟩ := hD12
  have N12 := Fr.app N11 N12q
  refine go (fun _ k => st12.trans k) ?_
  show Run _ _ _ _ _ _ _ T12 (mkF m 56 #[.val (.ref a0), .val (.int (1 : Int32)), .val (.double d2), .second, .val (.int (-1 : Int32))] [])
  refine go (T' := T12) (f' := (mkF m 65 #[.val (.ref a0), .val (.int (1 : Int32)), .val (.double d2), .second, .val (.int (-1 : Int32))] [])) (by intro t k; exact XS.goto X12.here hx rfl (pc0 := 56) (pc' := 65) rfl (hb hby d8_56) (by decide) (by decide) k) ?_
  refine retV X12 hx Bd.returns (hb hby d8_65) hlk (by decide) (by decide) ?_
  show Q8t16 Z a0 d2 bh bd bp x0 x1 h0 n0 _ T12.heap _
  exact ⟨rfl, N12, KK12, ⟨E12, Fh12, Fd12, Fp12, Fs12, Ft12, Ah12, Ad12, Ap12, g012, gh12, gd12, gp12, n0h12, n0d12, n0p12, nhd12, nhp12, ndp12⟩⟩
theorem d5_10 : decode prog_64_method_3_code 10 = .ok (.aload_n 0, 1) := by decide +kernel
theorem d5_11 : decode prog_64_method_3_code 11 = .ok (.getfield 17, 3) := by decide +kernel
theorem d5_14 : decode prog_64_method_3_code 14 = .ok (.aload_n 0, 1) := by decide +kernel
theorem d5_15 : decode prog_64_method_3_code 15 = .ok (.getfield 7, 3) := by decide +kernel
theorem d5_18 : decode prog_64_method_3_code 18 = .ok (.iload_n 1, 1) := by decide +kernel
theorem d5_19 : decode prog_64_method_3_code 19 = .ok (.iaload, 1) := by decide +kernel
theorem d5_20 : decode prog_64_method_3_code 20 = .ok (.iconst (-1), 1) := by decide +kernel
theorem d5_21 : decode prog_64_method_3_code 21 = .ok (.iastore, 1) := by decide +kernel
theorem d5_22 : decode prog_64_method_3_code 22 = .ok (.iinc 1 1, 3) := by decide +kernel
theorem d5_25 : decode prog_64_method_3_code 25 = .ok (.goto (-23), 3) := by decide +kernel
theorem ef_5t19 (m : MethodId) (x0 : Addr) : entryFrame m #[(.ref x0)] 2 = mkF m 0 #[.val (.ref x0), .unset] [] := by first | (simp [entryFrame, mkF, argsToLocals, Value.category]; done) | rfl
def Q5t19 (Z : State) (a0 : Addr) (bh bd bp : Addr) (x0 x1 : UInt64) (h0 : Heap) (n0 : Nat) (v : Option Value) (h : Heap) (L : List Loc) : Prop := v = none ∧ Fr n0 L ∧ Keep h0 h [a0, bh, bd, bp] ∧ own_st Z n0 h a0 bh bd bp (1 : Int32) (0 : Int32) (-1 : Int32) (-1 : Int32) (0 : Int32) (0 : Int32) x0 x1
set_option maxRecDepth 65536 in
set_option maxHeartbeats 40000000 in
theorem rm5t19 (l : Launch) (Z : State) (aw : Array Value) (hw : ∀ d ∈ tables_1, d.before aw Z = true) (ws : List Jvm.Cond) (a0 : Addr) (bh bd bp : Addr) (x0 x1 : UInt64) (h0 : Heap) (n0 : Nat) (Z0 : n0 ≤ h0.size) (St : own_st Z n0 h0 a0 bh bd bp (1 : Int32) (0 : Int32) (-1 : Int32) (0 : Int32) (1 : Int32) (0 : Int32) x0 x1) :
    MetFree l mclear (head1 (Jvm.Cond.code mclear prog_64_method_3_code 2 none :: ws) rO0) (fun a U => a = #[(.ref a0)] ∧ Z.Warmed39 U.vm ∧ U.heap = h0) (fun _ _ _ _ _ => True) (fun _ U o U' => ∃ v L, o = .returned v ∧ Q5t19 Z a0 bh bd bp x0 x1 h0 n0 v U'.heap L ∧ FrameEnd U o U' L rO0.cells rO0.slots) := by
  refine MetFree.of_bodySF (plainFor_of_name pn_1) hisR ?_
  intro p e s m args below meth c s₁ Bd hml0 hP hK
  obtain ⟨rfl, hZ, hh⟩ := hP
  have hx := Bd.exec
  have hby := Bd.bytes
  have hml : c.maxLocals = 2 := hml0
  have hown : s.vm.findClass "com/example/wayshard/wayshard/service/VertexQueue" = some m.cls := findClass_of_methodNamed Bd.named
  have hnm := (name_of_methodNamed Bd.named Bd.method).1
  have hlk : meth.locks = false := BodyLoose.notSynchronized Bd
  have X0 : Stand p l e rO0 s m #[(.ref a0)] below meth c s₁ [] 0 0 := Stand.of_body Bd
  have e0 : s₁.heap = h0 := by rw [← hh, Bd.state]; rfl
  have N0 := Fr.nil n0
  show Run p e s below (Q5t19 Z a0 bh bd bp x0 x1 h0 n0) rO0.cells rO0.slots s₁ (entryFrame m #[(.ref a0)] 2)
  rw [ef_5t19]
  obtain ⟨E, Fh, Fd, Fp, Fs, Ft, Ah, Ad, Ap, g0, gh, gd, gp, n0h, n0d, n0p, nhd, nhp, ndp⟩ := St
  show Run _ _ _ _ _ _ _ s₁ (mkF m 0 #[.val (.ref a0), .unset] [])
  refine go (T' := s₁) (f' := (mkF m 1 #[.val (.ref a0), .unset] [(.int (0 : Int32))])) (by intro t k; exact XS.iconst X0.here hx rfl (hb hby d5_0) k) ?_
  refine go (T' := s₁) (f' := (mkF m 2 #[.val (.ref a0), .val (.int (0 : Int32))] [])) (by intro t k; exact XS.istoreN X0.here hx rfl (hb hby d5_1) rfl (l' := #[.val (.ref a0), .val (.int (0 : Int32))]) rfl k) ?_
  refine go (T' := s₁) (f' := (mkF m 3 #[.val (.ref a0), .val (.int (0 : Int32))] [(.int (0 : Int32))])) (by intro t k; exact XS.iloadN X0.here hx rfl (hb hby d5_2) rfl k) ?_
  refine go (T' := s₁) (f' := (mkF m 4 #[.val (.ref a0), .val (.int (0 : Int32))] [(.ref a0), (.int (0 : Int32))])) (by intro t k; exact XS.aloadN X0.here hx rfl (hb hby d5_3) rfl rfl k) ?_
  obtain ⟨T1, X1, e1, st1⟩ := getF X0 hx hZ hown (host := "") (Or.inl (tw hw 30 rfl)) Via.refl e0 Fs (g := (mkF m 4 #[.val (.ref a0), .val (.int (0 : Int32))] [(.ref a0), (.int (0 : Int32))])) rfl rfl (hb hby d5_4)
  refine go st1 ?_
  show Run _ _ _ _ _ _ _ T1 (mkF m 7 #[.val (.ref a0), .val (.int (0 : Int32))] [(.int (1 : Int32)), (.int (0 : Int32))])
  refine go (T' := T1) (f' := (mkF m 10 #[.val (.ref a0), .val (.int (0 : Int32))] [])) (by intro t k; exact XS.icmpNo X1.here hx rfl (hb hby d5_7) rfl (tlt (by decide : (0 : Int32) < (1 : Int32))).2.1 k) ?_
  refine go (T' := T1) (f' := (mkF m 11 #[.val (.ref a0), .val (.int (0 : Int32))] [(.ref a0)])) (by intro t k; exact XS.aloadN X1.here hx rfl (hb hby d5_10) rfl rfl k) ?_
  obtain ⟨T2, X2, e2, st2⟩ := getF X1 hx hZ hown (host := "") (Or.inl (tw hw 15 rfl)) Via.refl e1 Fp (g := (mkF m 11 #[.val (.ref a0), .val (.int (0 : Int32))] [(.ref a0)])) rfl rfl (hb hby d5_11)
  refine go st2 ?_
  show Run _ _ _ _ _ _ _ T2 (mkF m 14 #[.val (.ref a0), .val (.int (0 : Int32))] [(.ref bp)])
  refine go (T' := T2) (f' := (mkF m 15 #[.val (.ref a0), .val (.int (0 : Int32))] [(.ref a0), (.ref bp)])) (by intro t k; exact XS.aloadN X2.here hx rfl (hb hby d5_14) rfl rfl k) ?_
  obtain ⟨T3, X3, e3, st3⟩ := getF X2 hx hZ hown (host := "") (Or.inl (tw hw 10 rfl)) Via.refl e2 Fh (g := (mkF m 15 #[.val (.ref a0), .val (.int (0 : Int32))] [(.ref a0), (.ref bp)])) rfl rfl (hb hby d5_15)
  refine go st3 ?_
  show Run _ _ _ _ _ _ _ T3 (mkF m 18 #[.val (.ref a0), .val (.int (0 : Int32))] [(.ref bh), (.ref bp)])
  refine go (T' := T3) (f' := (mkF m 19 #[.val (.ref a0), .val (.int (0 : Int32))] [(.int (0 : Int32)), (.ref bh), (.ref bp)])) (by intro t k; exact XS.iloadN X3.here hx rfl (hb hby d5_18) rfl k) ?_
  refine go (T' := T3) (f' := (mkF m 20 #[.val (.ref a0), .val (.int (0 : Int32))] [(.int (1 : Int32)), (.ref bp)])) (by intro t k; exact ldI X3 hx hZ e3 Ah (j := (0 : Int32)) (v := (.int (1 : Int32))) (by decide) rfl (g := (mkF m 19 #[.val (.ref a0), .val (.int (0 : Int32))] [(.int (0 : Int32)), (.ref bh), (.ref bp)])) rfl rfl (hb hby d5_19) _ k) ?_
  refine go (T' := T3) (f' := (mkF m 21 #[.val (.ref a0), .val (.int (0 : Int32))] [(.int (-1 : Int32)), (.int (1 : Int32)), (.ref bp)])) (by intro t k; exact XS.iconst X3.here hx rfl (hb hby d5_20) k) ?_
  obtain ⟨cl4, Ar4, hin4⟩ := Ary.st (j := (1 : Int32)) Ap (by decide) (by show (1 : Int32).toNatClampNeg < 2; decide)
  obtain ⟨T4, h4, X4, e4, W4, st4⟩ := stI X3 hx hZ e3 Ar4 (j := (1 : Int32)) hin4 (g := (mkF m 21 #[.val (.ref a0), .val (.int (0 : Int32))] [(.int (-1 : Int32)), (.int (1 : Int32)), (.ref bp)])) rfl rfl (hb hby d5_21)
  have K4 : Keep h0 h4 [bp] := Keep.of_wr W4
  have V4 : Ary Z h4 bp .int [(.int (-1 : Int32)), (.int (-1 : Int32))] := Ary.set Ap W4 rfl
  have N4 := Fr.snoc X4 N0 gp
  have E4_a0 := Exa.keep E K4
  have F4_a0_heap := Fld.keep Fh K4 (ninS n0p nin0)
  have F4_a0_priorities := Fld.keep Fd K4 (ninS n0p nin0)
  have F4_a0_places := Fld.keep Fp K4 (ninS n0p nin0)
  have F4_a0_size := Fld.keep Fs K4 (ninS n0p nin0)
  have F4_a0_taken := Fld.keep Ft K4 (ninS n0p nin0)
  have A4_bh := Ary.keep Ah K4 (ninS nhp nin0)
  have A4_bd := Ary.keep Ad K4 (ninS ndp nin0)
  have Z4 : n0 ≤ h4.size := Nat.le_trans Z0 K4.1
  have KK4 : Keep h0 h4 [a0, bh, bd, bp] := (Keep.refl _ _).trans K4 (allS (Or.inl (List.mem_of_getElem? (i := 3) rfl)) all0)
  refine go st4 ?_
  show Run _ _ _ _ _ _ _ T4 (mkF m 22 #[.val (.ref a0), .val (.int (0 : Int32))] [])
  refine go (T' := T4) (f' := (mkF m 25 #[.val (.ref a0), .val (.int (1 : Int32))] [])) (by intro t k; exact XS.iinc X4.here hx rfl (hb hby d5_22) rfl (l' := #[.val (.ref a0), .val (.int (1 : Int32))]) rfl k) ?_
  refine go (T' := T4) (f' := (mkF m 2 #[.val (.ref a0), .val (.int (1 : Int32))] [])) (by intro t k; exact XS.goto X4.here hx rfl (pc0 := 25) (pc' := 2) rfl (hb hby d5_25) (by decide) (by decide) k) ?_
  refine go (T' := T4) (f' := (mkF m 3 #[.val (.ref a0), .val (.int (1 : Int32))] [(.int (1 : Int32))])) (by intro t k; exact XS.iloadN X4.here hx rfl (hb hby d5_2) rfl k) ?_
  refine go (T' := T4) (f' := (mkF m 4 #[.val (.ref a0), .val (.int (1 : Int32))] [(.ref a0), (.int (1 : Int32))])) (by intro t k; exact XS.aloadN X4.here hx rfl (hb hby d5_3) rfl rfl k) ?_
  obtain ⟨T5, X5, e5, st5⟩ := getF X4 hx hZ hown (host := "") (Or.inl (tw hw 30 rfl)) Via.refl e4 F4_a0_size (g := (mkF m 4 #[.val (.ref a0), .val (.int (1 : Int32))] [(.ref a0), (.int (1 : Int32))])) rfl rfl (hb hby d5_4)
  refine go st5 ?_
  show Run _ _ _ _ _ _ _ T5 (mkF m 7 #[.val (.ref a0), .val (.int (1 : Int32))] [(.int (1 : Int32)), (.int (1 : Int32))])
  refine go (T' := T5) (f' := (mkF m 28 #[.val (.ref a0), .val (.int (1 : Int32))] [])) (by intro t k; exact XS.icmpYes X5.here hx rfl (pc0 := 7) (pc' := 28) rfl (hb hby d5_7) rfl (flt (by decide : ¬ ((1 : Int32) < (1 : Int32)))).2.1 (by decide) (by decide) k) ?_
  refine go (T' := T5) (f' := (mkF m 29 #[.val (.ref a0), .val (.int (1 : Int32))] [(.ref a0)])) (by intro t k; exact XS.aloadN X5.here hx rfl (hb hby d5_28) rfl rfl k) ?_
  obtain ⟨T6, X6, e6, st6⟩ := getF X5 hx hZ hown (host := "") (Or.inl (tw hw 10 rfl)) Via.refl e5 F4_a0_heap (g := (mkF m 29 #[.val (.ref a0), .val (.int (1 : Int32))] [(.ref a0)])) rfl rfl (hb hby d5_29)
  refine go st6 ?_
  show Run _ _ _ _ _ _ _ T6 (mkF m 32 #[.val (.ref a0), .val (.int (1 : Int32))] [(.ref bh)])
  refine go (T' := T6) (f' := (mkF m 33 #[.val (.ref a0), .val (.int (1 : Int32))] [(.int (2 : Int32))])) (by intro t k; exact alen X6 hx hZ e6 A4_bh (z := (2 : Int32)) rfl (g := (mkF m 32 #[.val (.ref a0), .val (.int (1 : Int32))] [(.ref bh)])) rfl rfl (hb hby d5_32) _ k) ?_
  refine go (T' := T6) (f' := (mkF m 34 #[.val (.ref a0), .val (.int (1 : Int32))] [(.ref a0), (.int (2 : Int32))])) (by intro t k; exact XS.aloadN X6.here hx rfl (hb hby d5_33) rfl rfl k) ?_
  obtain ⟨T7, X7, e7, st7⟩ := getF X6 hx hZ hown (host := "") (Or.inl (tw hw 32 rfl)) Via.refl e6 F4_a0_taken (g := (mkF m 34 #[.val (.ref a0), .val (.int (1 : Int32))] [(.ref a0), (.int (2 : Int32))])) rfl rfl (hb hby d5_34)
  refine go st7 ?_
  show Run _ _ _ _ _ _ _ T7 (mkF m 37 #[.val (.ref a0), .val (.int (1 : Int32))] [(.int (0 : Int32)), (.int (2 : Int32))])
  refine go (T' := T7) (f' := (mkF m 38 #[.val (.ref a0), .val (.int (1 : Int32))] [(.int (2 : Int32))])) (by intro t k; exact XS.isub X7.here hx rfl (hb hby d5_37) rfl k) ?_
  refine go (T' := T7) (f' := (mkF m 39 #[.val (.ref a0), .val (.int (2 : Int32))] [])) (by intro t k; exact XS.istoreN X7.here hx rfl (hb hby d5_38) rfl (l' := #[.val (.ref a0), .val (.int (2 : Int32))]) rfl k) ?_
  refine go (T' := T7) (f' := (mkF m 40 #[.val (.ref a0), .val (.int (2 : Int32))] [(.int (2 : Int32))])) (by intro t k; exact XS.iloadN X7.here hx rfl (hb hby d5_39) rfl k) ?_
  refine go (T' := T7) (f' := (mkF m 41 #[.val (.ref a0), .val (.int (2 : Int32))] [(.ref a0), (.int (2 : Int32))])) (by intro t k; exact XS.aloadN X7.here hx rfl (hb hby d5_40) rfl rfl k) ?_
  obtain ⟨T8, X8, e8, st8⟩ := getF X7 hx hZ hown (host := "") (Or.inl (tw hw 10 rfl)) Via.refl e7 F4_a0_heap (g := (mkF m 41 #[.val (.ref a0), .val (.int (2 : Int32))] [(.ref a0), (.int (2 : Int32))])) rfl rfl (hb hby d5_41)
  refine go st8 ?_
  show Run _ _ _ _ _ _ _ T8 (mkF m 44 #[.val (.ref a0), .val (.int (2 : Int32))] [(.ref bh), (.int (2 : Int32))])
  refine go (T' := T8) (f' := (mkF m 45 #[.val (.ref a0), .val (.int (2 : Int32))] [(.int (2 : Int32)), (.int (2 : Int32))])) (by intro t k; exact alen X8 hx hZ e8 A4_bh (z := (2 : Int32)) rfl (g := (mkF m 44 #[.val (.ref a0), .val (.int (2 : Int32))] [(.ref bh), (.int (2 : Int32))])) rfl rfl (hb hby d5_44) _ k) ?_
  refine go (T' := T8) (f' := (mkF m 66 #[.val (.ref a0), .val (.int (2 : Int32))] [])) (by intro t k; exact XS.icmpYes X8.here hx rfl (pc0 := 45) (pc' := 66) rfl (hb hby d5_45) rfl (flt (by decide : ¬ ((2 : Int32) < (2 : Int32)))).2.1 (by decide) (by decide) k) ?_
  refine go (T' := T8) (f' := (mkF m 67 #[.val (.ref a0), .val (.int (2 : Int32))] [(.ref a0)])) (by intro t k; exact XS.aloadN X8.here hx rfl (hb hby d5_66) rfl rfl k) ?_
  refine go (T' := T8) (f' := (mkF m 68 #[.val (.ref a0), .val (.int (2 : Int32))] [(.int (0 : Int32)), (.ref a0)])) (by intro t k; exact XS.iconst X8.here hx rfl (hb hby d5_67) k) ?_
  obtain ⟨T9, h9, X9, e9, W9, st9⟩ := putF X8 hx hZ hown (host := "") (Or.inl (tw hw 30 rfl)) Via.refl e8 F4_a0_size E4_a0 (Or.inl (tw hw 31 rfl)) (tw hw 1 rfl) (ty := .int) (by decide) rfl rfl (g := (mkF m 68 #[.val (.ref a0), .val (.int (2 : Int32))] [(.int (0 : Int32)), (.ref a0)])) rfl rfl (hb hby d5_68)
  have K9 : Keep h4 h9 [a0] := Keep.of_wr W9
  have F9_a0_heap := Fld.other W9 F4_a0_heap (Or.inr (slot_ne (Or.inr (tw hw 11 rfl)) (Or.inl (tw hw 31 rfl)) (by decide) (t := (.array .int)) (t' := .int) (by decide) (by decide)))
  have F9_a0_priorities := Fld.other W9 F4_a0_priorities (Or.inr (slot_ne (Or.inr (tw hw 14 rfl)) (Or.inl (tw hw 31 rfl)) (by decide) (t := (.array .double)) (t' := .int) (by decide) (by decide)))
  have F9_a0_places := Fld.other W9 F4_a0_places (Or.inr (slot_ne (Or.inr (tw hw 16 rfl)) (Or.inl (tw hw 31 rfl)) (by decide) (t := (.array .int)) (t' := .int) (by decide) (by decide)))
  have F9_a0_size : Fld Z h9 a0 "com/example/wayshard/wayshard/service/VertexQueue" "size" "I" (.int (0 : Int32)) := F4_a0_size.same W9
  have F9_a0_taken := Fld.other W9 F4_a0_taken (Or.inr (slot_ne (Or.inl (tw hw 33 rfl)) (Or.inl (tw hw 31 rfl)) (by decide) (t := .int) (t' := .int) (by decide) (by decide)))
  have N9 := Fr.snoc X9 N4 g0
  have E9_a0 := Exa.keep E4_a0 K9
  have A9_bh := Ary.keep A4_bh K9 (ninS (Ne.symm n0h) nin0)
  have A9_bd := Ary.keep A4_bd K9 (ninS (Ne.symm n0d) nin0)
  have A9_bp := Ary.keep V4 K9 (ninS (Ne.symm n0p) nin0)
  have Z9 : n0 ≤ h9.size := Nat.le_trans Z4 K9.1
  have KK9 : Keep h0 h9 [a0, bh, bd, bp] := KK4.trans K9 (allS (Or.inl (List.mem_of_getElem? (i := 0) rfl)) all0)
  refine go st9 ?_
  show Run _ _ _ _ _ _ _ T9 (mkF m 71 #[.val (.ref a0), .val (.int (2 : Int32))] [])
  refine go (T' := T9) (f' := (mkF m 72 #[.val (.ref a0), .val (.int (2 : Int32))] [(.ref a0)])) (by intro t k; exact XS.aloadN X9.here hx rfl (hb hby d5_71) rfl rfl k) ?_
  refine go (T' := T9) (f' := (mkF m 73 #[.val (.ref a0), .val (.int (2 : Int32))] [(.int (0 : Int32)), (.ref a0)])) (by intro t k; exact XS.iconst X9.here hx rfl (hb hby d5_72) k) ?_
  obtain ⟨T10, h10, X10, e10, W10, st10⟩ := putF X9 hx hZ hown (host := "") (Or.inl (tw hw 32 rfl)) Via.refl e9 F9_a0_taken E9_a0 (Or.inl (tw hw 33 rfl)) (tw hw 1 rfl) (ty := .int) (by decide) rfl rfl (g := (mkF m 73 #[.val (.ref a0), .val (.int (2 : Int32))] [(.int (0 : Int32)), (.ref a0)])) rfl rfl (hb hby d5_73)
  have K10 : Keep h9 h10 [a0] := Keep.of_wr W10
  have F10_a0_heap := Fld.other W10 F9_a0_heap (Or.inr (slot_ne (Or.inr (tw hw 11 rfl)) (Or.inl (tw hw 33 rfl)) (by decide) (t := (.array .int)) (t' := .int) (by decide) (by decide)))
  have F10_a0_priorities := Fld.other W10 F9_a0_priorities (Or.inr (slot_ne (Or.inr (tw hw 14 rfl)) (Or.inl (tw hw 33 rfl)) (by decide) (t := (.array .double)) (t' := .int) (by decide) (by decide)))
  have F10_a0_places := Fld.other W10 F9_a0_places (Or.inr (slot_ne (Or.inr (tw hw 16 rfl)) (Or.inl (tw hw 33 rfl)) (by decide) (t := (.array .int)) (t' := .int) (by decide) (by decide)))
  have F10_a0_size := Fld.other W10 F9_a0_size (Or.inr (slot_ne (Or.inl (tw hw 31 rfl)) (Or.inl (tw hw 33 rfl)) (by decide) (t := .int) (t' := .int) (by decide) (by decide)))
  have F10_a0_taken : Fld Z h10 a0 "com/example/wayshard/wayshard/service/VertexQueue" "taken" "I" (.int (0 : Int32)) := F9_a0_taken.same W10
  have N10 := Fr.snoc X10 N9 g0
  have E10_a0 := Exa.keep E9_a0 K10
  have A10_bh := Ary.keep A9_bh K10 (ninS (Ne.symm n0h) nin0)
  have A10_bd := Ary.keep A9_bd K10 (ninS (Ne.symm n0d) nin0)
  have A10_bp := Ary.keep A9_bp K10 (ninS (Ne.symm n0p) nin0)
  have Z10 : n0 ≤ h10.size := Nat.le_trans Z9 K10.1
  have KK10 : Keep h0 h10 [a0, bh, bd, bp] := KK9.trans K10 (allS (Or.inl (List.mem_of_getElem? (i := 0) rfl)) all0)
  refine go st10 ?_
  show Run _ _ _ _ _ _ _ T10 (mkF m 76 #[.val (.ref a0), .val (.int (2 : Int32))] [])
  refine retV X10 hx Bd.returns (hb hby d5_76) hlk (by decide) (by decide) ?_
  show Q5t19 Z a0 bh bd bp x0 x1 h0 n0 _ T10.heap _
  rw [e10]
  exact ⟨rfl, N10, KK10, ⟨E10_a0, F10_a0_heap, F10_a0_priorities, F10_a0_places, F10_a0_size, F10_a0_taken, A10_bh, A10_bd, A10_bp, g0, gh, gd, gp, n0h, n0d, n0p, nhd, nhp, ndp⟩⟩
theorem ef_11t20 (m : MethodId) (x0 : Addr) : entryFrame m #[(.ref x0)] 2 = mkF m 0 #[.val (.ref x0), .unset] [] := by first | (simp [entryFrame, mkF, argsToLocals, Value.category]; done) | rfl
def Q11t20 (Z : State) (a0 : Addr) (bh bd bp : Addr) (x0 x1 : UInt64) (h0 : Heap) (n0 : Nat) (v : Option Value) (h : Heap) (L : List Loc) : Prop := v = some (.int (1 : Int32)) ∧ Fr n0 L ∧ Keep h0 h [a0, bh, bd, bp] ∧ own_st Z n0 h a0 bh bd bp (1 : Int32) (1 : Int32) (-1 : Int32) (-2 : Int32) (0 : Int32) (1 : Int32) x0 x1
set_option maxRecDepth 65536 in
set_option maxHeartbeats 40000000 in
theorem rm11t20 (l : Launch) (Z : State) (aw : Array Value) (hw : ∀ d ∈ tables_1, d.before aw Z = true) (ws : List Jvm.Cond) (a0 : Addr) (bh bd bp : Addr) (x0 x1 : UInt64) (h0 : Heap) (n0 : Nat) (Z0 : n0 ≤ h0.size) (St : own_st Z n0 h0 a0 bh bd bp (1 : Int32) (0 : Int32) (-1 : Int32) (0 : Int32) (1 : Int32) (0 : Int32) x0 x1) :
    MetFree l mpoll (head1 (Jvm.Cond.code mpoll prog_64_method_6_code 2 (some .int) :: ws) rO0) (fun a U => a = #[(.ref a0)] ∧ Z.Warmed39 U.vm ∧ U.heap = h0) (fun _ _ _ _ _ => True) (fun _ U o U' => ∃ v L, o = .returned v ∧ Q11t20 Z a0 bh bd bp x0 x1 h0 n0 v U'.heap L ∧ FrameEnd U o U' L rO0.cells rO0.slots) := by
  refine MetFree.of_bodySF (plainFor_of_name pn_1) hisR ?_
  intro p e s m args below meth c s₁ Bd hml0 hP hK
  obtain ⟨rfl, hZ, hh⟩ := hP
  have hx := Bd.exec
  have hby := Bd.bytes
  have hml : c.maxLocals = 2 := hml0
  have hown : s.vm.findClass "com/example/wayshard/wayshard/service/VertexQueue" = some m.cls := findClass_of_methodNamed Bd.named
  have hnm := (name_of_methodNamed Bd.named Bd.method).1
  have hlk : meth.locks = false := BodyLoose.notSynchronized Bd
  have X0 : Stand p l e rO0 s m #[(.ref a0)] below meth c s₁ [] 0 0 := Stand.of_body Bd
  have e0 : s₁.heap = h0 := by rw [← hh, Bd.state]; rfl
  have N0 := Fr.nil n0
  show Run p e s below (Q11t20 Z a0 bh bd bp x0 x1 h0 n0) rO0.cells rO0.slots s₁ (entryFrame m #[(.ref a0)] 2)
  rw [ef_11t20]
  obtain ⟨E, Fh, Fd, Fp, Fs, Ft, Ah, Ad, Ap, g0, gh, gd, gp, n0h, n0d, n0p, nhd, nhp, ndp⟩ := St
  show Run _ _ _ _ _ _ _ s₁ (mkF m 0 #[.val (.ref a0), .unset] [])
  refine go (T' := s₁) (f' := (mkF m 1 #[.val (.ref a0), .unset] [(.ref a0)])) (by intro t k; exact XS.aloadN X0.here hx rfl (hb hby d11_0) rfl rfl k) ?_
  obtain ⟨T1, X1, e1, st1⟩ := getF X0 hx hZ hown (host := "") (Or.inl (tw hw 30 rfl)) Via.refl e0 Fs (g := (mkF m 1 #[.val (.ref a0), .unset] [(.ref a0)])) rfl rfl (hb hby d11_1)
  refine go st1 ?_
  show Run _ _ _ _ _ _ _ T1 (mkF m 4 #[.val (.ref a0), .unset] [(.int (1 : Int32))])
  refine go (T' := T1) (f' := (mkF m 15 #[.val (.ref a0), .unset] [])) (by intro t k; exact XS.ifYes X1.here hx rfl (pc0 := 4) (pc' := 15) rfl (hb hby d11_4) rfl ((if0 _ _).trans (feq (by decide : ¬ ((1 : Int32) = (0 : Int32)))).2) (by decide) (by decide) k) ?_
  refine go (T' := T1) (f' := (mkF m 16 #[.val (.ref a0), .unset] [(.ref a0)])) (by intro t k; exact XS.aloadN X1.here hx rfl (hb hby d11_15) rfl rfl k) ?_
  obtain ⟨T2, X2, e2, st2⟩ := getF X1 hx hZ hown (host := "") (Or.inl (tw hw 10 rfl)) Via.refl e1 Fh (g := (mkF m 16 #[.val (.ref a0), .unset] [(.ref a0)])) rfl rfl (hb hby d11_16)
  refine go st2 ?_
  show Run _ _ _ _ _ _ _ T2 (mkF m 19 #[.val (.ref a0), .unset] [(.ref bh)])
  refine go (T' := T2) (f' := (mkF m 20 #[.val (.ref a0), .unset] [(.int (0 : Int32)), (.ref bh)])) (by intro t k; exact XS.iconst X2.here hx rfl (hb hby d11_19) k) ?_
  refine go (T' := T2) (f' := (mkF m 21 #[.val (.ref a0), .unset] [(.int (1 : Int32))])) (by intro t k; exact ldI X2 hx hZ e2 Ah (j := (0 : Int32)) (v := (.int (1 : Int32))) (by decide) rfl (g := (mkF m 20 #[.val (.ref a0), .unset] [(.int (0 : Int32)), (.ref bh)])) rfl rfl (hb hby d11_20) _ k) ?_
  refine go (T' := T2) (f' := (mkF m 22 #[.val (.ref a0), .val (.int (1 : Int32))] [])) (by intro t k; exact XS.istoreN X2.here hx rfl (hb hby d11_21) rfl (l' := #[.val (.ref a0), .val (.int (1 : Int32))]) rfl k) ?_
  refine go (T' := T2) (f' := (mkF m 23 #[.val (.ref a0), .val (.int (1 : Int32))] [(.ref a0)])) (by intro t k; exact XS.aloadN X2.here hx rfl (hb hby d11_22) rfl rfl k) ?_
  refine go (T' := T2) (f' := (mkF m 24 #[.val (.ref a0), .val (.int (1 : Int32))] [(.ref a0), (.ref a0)])) (by intro t k; exact XS.dup X2.here hx rfl (hb hby d11_23) rfl rfl k) ?_
  obtain ⟨T3, X3, e3, st3⟩ := getF X2 hx hZ hown (host := "") (Or.inl (tw hw 30 rfl)) Via.refl e2 Fs (g := (mkF m 24 #[.val (.ref a0), .val (.int (1 : Int32))] [(.ref a0), (.ref a0)])) rfl rfl (hb hby d11_24)
  refine go st3 ?_
  show Run _ _ _ _ _ _ _ T3 (mkF m 27 #[.val (.ref a0), .val (.int (1 : Int32))] [(.int (1 : Int32)), (.ref a0)])
  refine go (T' := T3) (f' := (mkF m 28 #[.val (.ref a0), .val (.int (1 : Int32))] [(.int (1 : Int32)), (.int (1 : Int32)), (.ref a0)])) (by intro t k; exact XS.iconst X3.here hx rfl (hb hby d11_27) k) ?_
  refine go (T' := T3) (f' := (mkF m 29 #[.val (.ref a0), .val (.int (1 : Int32))] [(.int (0 : Int32)), (.ref a0)])) (by intro t k; exact XS.isub X3.here hx rfl (hb hby d11_28) rfl k) ?_
  obtain ⟨T4, h4, X4, e4, W4, st4⟩ := putF X3 hx hZ hown (host := "") (Or.inl (tw hw 30 rfl)) Via.refl e3 Fs E (Or.inl (tw hw 31 rfl)) (tw hw 1 rfl) (ty := .int) (by decide) rfl rfl (g := (mkF m 29 #[.val (.ref a0), .val (.int (1 : Int32))] [(.int (0 : Int32)), (.ref a0)])) rfl rfl (hb hby d11_29)
  have K4 : Keep h0 h4 [a0] := Keep.of_wr W4
  have F4_a0_heap := Fld.other W4 Fh (Or.inr (slot_ne (Or.inr (tw hw 11 rfl)) (Or.inl (tw hw 31 rfl)) (by decide) (t := (.array .int)) (t' := .int) (by decide) (by decide)))
  have F4_a0_priorities := Fld.other W4 Fd (Or.inr (slot_ne (Or.inr (tw hw 14 rfl)) (Or.inl (tw hw 31 rfl)) (by decide) (t := (.array .double)) (t' := .int) (by decide) (by decide)))
  have F4_a0_places := Fld.other W4 Fp (Or.inr (slot_ne (Or.inr (tw hw 16 rfl)) (Or.inl (tw hw 31 rfl)) (by decide) (t := (.array .int)) (t' := .int) (by decide) (by decide)))
  have F4_a0_size : Fld Z h4 a0 "com/example/wayshard/wayshard/service/VertexQueue" "size" "I" (.int (0 : Int32)) := Fs.same W4
  have F4_a0_taken := Fld.other W4 Ft (Or.inr (slot_ne (Or.inl (tw hw 33 rfl)) (Or.inl (tw hw 31 rfl)) (by decide) (t := .int) (t' := .int) (by decide) (by decide)))
  have N4 := Fr.snoc X4 N0 g0
  have E4_a0 := Exa.keep E K4
  have A4_bh := Ary.keep Ah K4 (ninS (Ne.symm n0h) nin0)
  have A4_bd := Ary.keep Ad K4 (ninS (Ne.symm n0d) nin0)
  have A4_bp := Ary.keep Ap K4 (ninS (Ne.symm n0p) nin0)
  have Z4 : n0 ≤ h4.size := Nat.le_trans Z0 K4.1
  have KK4 : Keep h0 h4 [a0, bh, bd, bp] := (Keep.refl _ _).trans K4 (allS (Or.inl (List.mem_of_getElem? (i := 0) rfl)) all0)
  refine go st4 ?_
  show Run _ _ _ _ _ _ _ T4 (mkF m 32 #[.val (.ref a0), .val (.int (1 : Int32))] [])
  refine go (T' := T4) (f' := (mkF m 33 #[.val (.ref a0), .val (.int (1 : Int32))] [(.ref a0)])) (by intro t k; exact XS.aloadN X4.here hx rfl (hb hby d11_32) rfl rfl k) ?_
  obtain ⟨T5, X5, e5, st5⟩ := getF X4 hx hZ hown (host := "") (Or.inl (tw hw 30 rfl)) Via.refl e4 F4_a0_size (g := (mkF m 33 #[.val (.ref a0), .val (.int (1 : Int32))] [(.ref a0)])) rfl rfl (hb hby d11_33)
  refine go st5 ?_
  show Run _ _ _ _ _ _ _ T5 (mkF m 36 #[.val (.ref a0), .val (.int (1 : Int32))] [(.int (0 : Int32))])
  refine go (T' := T5) (f' := (mkF m 71 #[.val (.ref a0), .val (.int (1 : Int32))] [])) (by intro t k; exact XS.ifYes X5.here hx rfl (pc0 := 36) (pc' := 71) rfl (hb hby d11_36) rfl ((if0 _ _).trans (flt (by decide : ¬ ((0 : Int32) < (0 : Int32)))).2.2.2) (by decide) (by decide) k) ?_
  refine go (T' := T5) (f' := (mkF m 72 #[.val (.ref a0), .val (.int (1 : Int32))] [(.ref a0)])) (by intro t k; exact XS.aloadN X5.here hx rfl (hb hby d11_71) rfl rfl k) ?_
  refine go (T' := T5) (f' := (mkF m 73 #[.val (.ref a0), .val (.int (1 : Int32))] [(.ref a0), (.ref a0)])) (by intro t k; exact XS.dup X5.here hx rfl (hb hby d11_72) rfl rfl k) ?_
  obtain ⟨T6, X6, e6, st6⟩ := getF X5 hx hZ hown (host := "") (Or.inl (tw hw 32 rfl)) Via.refl e5 F4_a0_taken (g := (mkF m 73 #[.val (.ref a0), .val (.int (1 : Int32))] [(.ref a0), (.ref a0)])) rfl rfl (hb hby d11_73)
  refine go st6 ?_
  show Run _ _ _ _ _ _ _ T6 (mkF m 76 #[.val (.ref a0), .val (.int (1 : Int32))] [(.int (0 : Int32)), (.ref a0)])
  refine go (T' := T6) (f' := (mkF m 77 #[.val (.ref a0), .val (.int (1 : Int32))] [(.int (1 : Int32)), (.int (0 : Int32)), (.ref a0)])) (by intro t k; exact XS.iconst X6.here hx rfl (hb hby d11_76) k) ?_
  refine go (T' := T6) (f' := (mkF m 78 #[.val (.ref a0), .val (.int (1 : Int32))] [(.int (1 : Int32)), (.ref a0)])) (by intro t k; exact XS.iadd X6.here hx rfl (hb hby d11_77) rfl k) ?_
  obtain ⟨T7, h7, X7, e7, W7, st7⟩ := putF X6 hx hZ hown (host := "") (Or.inl (tw hw 32 rfl)) Via.refl e6 F4_a0_taken E4_a0 (Or.inl (tw hw 33 rfl)) (tw hw 1 rfl) (ty := .int) (by decide) rfl rfl (g := (mkF m 78 #[.val (.ref a0), .val (.int (1 : Int32))] [(.int (1 : Int32)), (.ref a0)])) rfl rfl (hb hby d11_78)
  have K7 : Keep h4 h7 [a0] := Keep.of_wr W7
  have F7_a0_heap := Fld.other W7 F4_a0_heap (Or.inr (slot_ne (Or.inr (tw hw 11 rfl)) (Or.inl (tw hw 33 rfl)) (by decide) (t := (.array .int)) (t' := .int) (by decide) (by decide)))
  have F7_a0_priorities := Fld.other W7 F4_a0_priorities (Or.inr (slot_ne (Or.inr (tw hw 14 rfl)) (Or.inl (tw hw 33 rfl)) (by decide) (t := (.array .double)) (t' := .int) (by decide) (by decide)))
  have F7_a0_places := Fld.other W7 F4_a0_places (Or.inr (slot_ne (Or.inr (tw hw 16 rfl)) (Or.inl (tw hw 33 rfl)) (by decide) (t := (.array .int)) (t' := .int) (by decide) (by decide)))
  have F7_a0_size := Fld.other W7 F4_a0_size (Or.inr (slot_ne (Or.inl (tw hw 31 rfl)) (Or.inl (tw hw 33 rfl)) (by decide) (t := .int) (t' := .int) (by decide) (by decide)))
  have F7_a0_taken : Fld Z h7 a0 "com/example/wayshard/wayshard/service/VertexQueue" "taken" "I" (.int (1 : Int32)) := F4_a0_taken.same W7
  have N7 := Fr.snoc X7 N4 g0
  have E7_a0 := Exa.keep E4_a0 K7
  have A7_bh := Ary.keep A4_bh K7 (ninS (Ne.symm n0h) nin0)
  have A7_bd := Ary.keep A4_bd K7 (ninS (Ne.symm n0d) nin0)
  have A7_bp := Ary.keep A4_bp K7 (ninS (Ne.symm n0p) nin0)
  have Z7 : n0 ≤ h7.size := Nat.le_trans Z4 K7.1
  have KK7 : Keep h0 h7 [a0, bh, bd, bp] := KK4.trans K7 (allS (Or.inl (List.mem_of_getElem? (i := 0) rfl)) all0)
  refine go st7 ?_
  show Run _ _ _ _ _ _ _ T7 (mkF m 81 #[.val (.ref a0), .val (.int (1 : Int32))] [])
  refine go (T' := T7) (f' := (mkF m 82 #[.val (.ref a0), .val (.int (1 : Int32))] [(.ref a0)])) (by intro t k; exact XS.aloadN X7.here hx rfl (hb hby d11_81) rfl rfl k) ?_
  obtain ⟨T8, X8, e8, st8⟩ := getF X7 hx hZ hown (host := "") (Or.inl (tw hw 10 rfl)) Via.refl e7 F7_a0_heap (g := (mkF m 82 #[.val (.ref a0), .val (.int (1 : Int32))] [(.ref a0)])) rfl rfl (hb hby d11_82)
  refine go st8 ?_
  show Run _ _ _ _ _ _ _ T8 (mkF m 85 #[.val (.ref a0), .val (.int (1 : Int32))] [(.ref bh)])
  refine go (T' := T8) (f' := (mkF m 86 #[.val (.ref a0), .val (.int (1 : Int32))] [(.ref a0), (.ref bh)])) (by intro t k; exact XS.aloadN X8.here hx rfl (hb hby d11_85) rfl rfl k) ?_
  obtain ⟨T9, X9, e9, st9⟩ := getF X8 hx hZ hown (host := "") (Or.inl (tw hw 10 rfl)) Via.refl e8 F7_a0_heap (g := (mkF m 86 #[.val (.ref a0), .val (.int (1 : Int32))] [(.ref a0), (.ref bh)])) rfl rfl (hb hby d11_86)
  refine go st9 ?_
  show Run _ _ _ _ _ _ _ T9 (mkF m 89 #[.val (.ref a0), .val (.int (1 : Int32))] [(.ref bh), (.ref bh)])
  refine go (T' := T9) (f' := (mkF m 90 #[.val (.ref a0), .val (.int (1 : Int32))] [(.int (2 : Int32)), (.ref bh)])) (by intro t k; exact alen X9 hx hZ e9 A7_bh (z := (2 : Int32)) rfl (g := (mkF m 89 #[.val (.ref a0), .val (.int (1 : Int32))] [(.ref bh), (.ref bh)])) rfl rfl (hb hby d11_89) _ k) ?_
  refine go (T' := T9) (f' := (mkF m 91 #[.val (.ref a0), .val (.int (1 : Int32))] [(.ref a0), (.int (2 : Int32)), (.ref bh)])) (by intro t k; exact XS.aloadN X9.here hx rfl (hb hby d11_90) rfl rfl k) ?_
  obtain ⟨T10, X10, e10, st10⟩ := getF X9 hx hZ hown (host := "") (Or.inl (tw hw 32 rfl)) Via.refl e9 F7_a0_taken (g := (mkF m 91 #[.val (.ref a0), .val (.int (1 : Int32))] [(.ref a0), (.int (2 : Int32)), (.ref bh)])) rfl rfl (hb hby d11_91)
  refine go st10 ?_
  show Run _ _ _ _ _ _ _ T10 (mkF m 94 #[.val (.ref a0), .val (.int (1 : Int32))] [(.int (1 : Int32)), (.int (2 : Int32)), (.ref bh)])
  refine go (T' := T10) (f' := (mkF m 95 #[.val (.ref a0), .val (.int (1 : Int32))] [(.int (1 : Int32)), (.ref bh)])) (by intro t k; exact XS.isub X10.here hx rfl (hb hby d11_94) rfl k) ?_
  refine go (T' := T10) (f' := (mkF m 96 #[.val (.ref a0), .val (.int (1 : Int32))] [(.int (1 : Int32)), (.int (1 : Int32)), (.ref bh)])) (by intro t k; exact XS.iloadN X10.here hx rfl (hb hby d11_95) rfl k) ?_
  obtain ⟨cl11, Ar11, hin11⟩ := Ary.st (j := (1 : Int32)) A7_bh (by decide) (by show (1 : Int32).toNatClampNeg < 2; decide)
  obtain ⟨T11, h11, X11, e11, W11, st11⟩ := stI X10 hx hZ e10 Ar11 (j := (1 : Int32)) hin11 (g := (mkF m 96 #[.val (.ref a0), .val (.int (1 : Int32))] [(.int (1 : Int32)), (.int (1 : Int32)), (.ref bh)])) rfl rfl (hb hby d11_96)
  have K11 : Keep h7 h11 [bh] := Keep.of_wr W11
  have V11 : Ary Z h11 bh .int [(.int (1 : Int32)), (.int (1 : Int32))] := Ary.set A7_bh W11 rfl
  have N11 := Fr.snoc X11 N7 gh
  have E11_a0 := Exa.keep E7_a0 K11
  have F11_a0_heap := Fld.keep F7_a0_heap K11 (ninS n0h nin0)
  have F11_a0_priorities := Fld.keep F7_a0_priorities K11 (ninS n0h nin0)
  have F11_a0_places := Fld.keep F7_a0_places K11 (ninS n0h nin0)
  have F11_a0_size := Fld.keep F7_a0_size K11 (ninS n0h nin0)
  have F11_a0_taken := Fld.keep F7_a0_taken K11 (ninS n0h nin0)
  have A11_bd := Ary.keep A7_bd K11 (ninS (Ne.symm nhd) nin0)
  have A11_bp := Ary.keep A7_bp K11 (ninS (Ne.symm nhp) nin0)
  have Z11 : n0 ≤ h11.size := Nat.le_trans Z7 K11.1
  have KK11 : Keep h0 h11 [a0, bh, bd, bp] := KK7.trans K11 (allS (Or.inl (List.mem_of_getElem? (i := 1) rfl)) all0)
  refine go st11 ?_
  show Run _ _ _ _ _ _ _ T11 (mkF m 97 #[.val (.ref a0), .val (.int (1 : Int32))] [])
  refine go (T' := T11) (f' := (mkF m 98 #[.val (.ref a0), .val (.int (1 : Int32))] [(.ref a0)])) (by intro t k; exact XS.aloadN X11.here hx rfl (hb hby d11_97) rfl rfl k) ?_
  obtain ⟨T12, X12, e12, st12⟩ := getF X11 hx hZ hown (host := "") (Or.inl (tw hw 15 rfl)) Via.refl e11 F11_a0_places (g := (mkF m 98 #[.val (.ref a0), .val (.int (1 : Int32))] [(.ref a0)])) rfl rfl (hb hby d11_98)
  refine go st12 ?_
  show Run _ _ _ _ _ _ _ T12 (mkF m 101 #[.val (.ref a0), .val (.int (1 : Int32))] [(.ref bp)])
  refine go (T' := T12) (f' := (mkF m 102 #[.val (.ref a0), .val (.int (1 : Int32))] [(.int (1 : Int32)), (.ref bp)])) (by intro t k; exact XS.iloadN X12.here hx rfl (hb hby d11_101) rfl k) ?_
  refine go (T' := T12) (f' := (mkF m 104 #[.val (.ref a0), .val (.int (1 : Int32))] [(.int (-2 : Int32)), (.int (1 : Int32)), (.ref bp)])) (by intro t k; exact XS.bipush X12.here hx rfl (hb hby d11_102) k) ?_
  obtain ⟨cl13, Ar13, hin13⟩ := Ary.st (j := (1 : Int32)) A11_bp (by decide) (by show (1 : Int32).toNatClampNeg < 2; decide)
  obtain ⟨T13, h13, X13, e13, W13, st13⟩ := stI X12 hx hZ e12 Ar13 (j := (1 : Int32)) hin13 (g := (mkF m 104 #[.val (.ref a0), .val (.int (1 : Int32))] [(.int (-2 : Int32)), (.int (1 : Int32)), (.ref bp)])) rfl rfl (hb hby d11_104)
  have K13 : Keep h11 h13 [bp] := Keep.of_wr W13
  have V13 : Ary Z h13 bp .int [(.int (-1 : Int32)), (.int (-2 : Int32))] := Ary.set A11_bp W13 rfl
  have N13 := Fr.snoc X13 N11 gp
  have E13_a0 := Exa.keep E11_a0 K13
  have F13_a0_heap := Fld.keep F11_a0_heap K13 (ninS n0p nin0)
  have F13_a0_priorities := Fld.keep F11_a0_priorities K13 (ninS n0p nin0)
  have F13_a0_places := Fld.keep F11_a0_places K13 (ninS n0p nin0)
  have F13_a0_size := Fld.keep F11_a0_size K13 (ninS n0p nin0)
  have F13_a0_taken := Fld.keep F11_a0_taken K13 (ninS n0p nin0)
  have A13_bh := Ary.keep V11 K13 (ninS nhp nin0)
  have A13_bd := Ary.keep A11_bd K13 (ninS ndp nin0)
  have Z13 : n0 ≤ h13.size := Nat.le_trans Z11 K13.1
  have KK13 : Keep h0 h13 [a0, bh, bd, bp] := KK11.trans K13 (allS (Or.inl (List.mem_of_getElem? (i := 3) rfl)) all0)
  refine go st13 ?_
  show Run _ _ _ _ _ _ _ T13 (mkF m 105 #[.val (.ref a0), .val (.int (1 : Int32))] [])
  refine go (T' := T13) (f' := (mkF m 106 #[.val (.ref a0), .val (.int (1 : Int32))] [(.int (1 : Int32))])) (by intro t k; exact XS.iloadN X13.here hx rfl (hb hby d11_105) rfl k) ?_
  refine retW X13 hx (t := .int) Bd.returns rfl (Or.inl ⟨rfl, Or.inl rfl, _, rfl⟩) (hb hby d11_106) hlk (by decide) (by decide) ?_
  show Q11t20 Z a0 bh bd bp x0 x1 h0 n0 _ T13.heap _
  rw [e13]
  have hv : (some (.int (1 : Int32)) : Option Value) = some (.int (1 : Int32)) := rfl
  exact ⟨hv, N13, KK13, ⟨E13_a0, F13_a0_heap, F13_a0_priorities, F13_a0_places, F13_a0_size, F13_a0_taken, A13_bh, A13_bd, V13, g0, gh, gd, gp, n0h, n0d, n0p, nhd, nhp, ndp⟩⟩
theorem d5_48 : decode prog_64_method_3_code 48 = .ok (.aload_n 0, 1) := by decide +kernel
theorem d5_49 : decode prog_64_method_3_code 49 = .ok (.getfield 17, 3) := by decide +kernel
theorem d5_52 : decode prog_64_method_3_code 52 = .ok (.aload_n 0, 1) := by decide +kernel
theorem d5_53 : decode prog_64_method_3_code 53 = .ok (.getfield 7, 3) := by decide +kernel
theorem d5_56 : decode prog_64_method_3_code 56 = .ok (.iload_n 1, 1) := by decide +kernel
theorem d5_57 : decode prog_64_method_3_code 57 = .ok (.iaload, 1) := by decide +kernel
theorem d5_58 : decode prog_64_method_3_code 58 = .ok (.iconst (-1), 1) := by decide +kernel
theorem d5_59 : decode prog_64_method_3_code 59 = .ok (.iastore, 1) := by decide +kernel
theorem d5_60 : decode prog_64_method_3_code 60 = .ok (.iinc 1 1, 3) := by decide +kernel
theorem d5_63 : decode prog_64_method_3_code 63 = .ok (.goto (-24), 3) := by decide +kernel
theorem ef_5t21 (m : MethodId) (x0 : Addr) : entryFrame m #[(.ref x0)] 2 = mkF m 0 #[.val (.ref x0), .unset] [] := by first | (simp [entryFrame, mkF, argsToLocals, Value.category]; done) | rfl
def Q5t21 (Z : State) (a0 : Addr) (bh bd bp : Addr) (x0 x1 : UInt64) (h0 : Heap) (n0 : Nat) (v : Option Value) (h : Heap) (L : List Loc) : Prop := v = none ∧ Fr n0 L ∧ Keep h0 h [a0, bh, bd, bp] ∧ own_st Z n0 h a0 bh bd bp (1 : Int32) (1 : Int32) (-1 : Int32) (-1 : Int32) (0 : Int32) (0 : Int32) x0 x1
set_option maxRecDepth 65536 in
set_option maxHeartbeats 40000000 in
theorem rm5t21 (l : Launch) (Z : State) (aw : Array Value) (hw : ∀ d ∈ tables_1, d.before aw Z = true) (ws : List Jvm.Cond) (a0 : Addr) (bh bd bp : Addr) (x0 x1 : UInt64) (h0 : Heap) (n0 : Nat) (Z0 : n0 ≤ h0.size) (St : own_st Z n0 h0 a0 bh bd bp (1 : Int32) (1 : Int32) (-1 : Int32) (-2 : Int32) (0 : Int32) (1 : Int32) x0 x1) :
    MetFree l mclear (head1 (Jvm.Cond.code mclear prog_64_method_3_code 2 none :: ws) rO0) (fun a U => a = #[(.ref a0)] ∧ Z.Warmed39 U.vm ∧ U.heap = h0) (fun _ _ _ _ _ => True) (fun _ U o U' => ∃ v L, o = .returned v ∧ Q5t21 Z a0 bh bd bp x0 x1 h0 n0 v U'.heap L ∧ FrameEnd U o U' L rO0.cells rO0.slots) := by
  refine MetFree.of_bodySF (plainFor_of_name pn_1) hisR ?_
  intro p e s m args below meth c s₁ Bd hml0 hP hK
  obtain ⟨rfl, hZ, hh⟩ := hP
  have hx := Bd.exec
  have hby := Bd.bytes
  have hml : c.maxLocals = 2 := hml0
  have hown : s.vm.findClass "com/example/wayshard/wayshard/service/VertexQueue" = some m.cls := findClass_of_methodNamed Bd.named
  have hnm := (name_of_methodNamed Bd.named Bd.method).1
  have hlk : meth.locks = false := BodyLoose.notSynchronized Bd
  have X0 : Stand p l e rO0 s m #[(.ref a0)] below meth c s₁ [] 0 0 := Stand.of_body Bd
  have e0 : s₁.heap = h0 := by rw [← hh, Bd.state]; rfl
  have N0 := Fr.nil n0
  show Run p e s below (Q5t21 Z a0 bh bd bp x0 x1 h0 n0) rO0.cells rO0.slots s₁ (entryFrame m #[(.ref a0)] 2)
  rw [ef_5t21]
  obtain ⟨E, Fh, Fd, Fp, Fs, Ft, Ah, Ad, Ap, g0, gh, gd, gp, n0h, n0d, n0p, nhd, nhp, ndp⟩ := St
  show Run _ _ _ _ _ _ _ s₁ (mkF m 0 #[.val (.ref a0), .unset] [])
  refine go (T' := s₁) (f' := (mkF m 1 #[.val (.ref a0), .unset] [(.int (0 : Int32))])) (by intro t k; exact XS.iconst X0.here hx rfl (hb hby d5_0) k) ?_
  refine go (T' := s₁) (f' := (mkF m 2 #[.val (.ref a0), .val (.int (0 : Int32))] [])) (by intro t k; exact XS.istoreN X0.here hx rfl (hb hby d5_1) rfl (l' := #[.val (.ref a0), .val (.int (0 : Int32))]) rfl k) ?_
  refine go (T' := s₁) (f' := (mkF m 3 #[.val (.ref a0), .val (.int (0 : Int32))] [(.int (0 : Int32))])) (by intro t k; exact XS.iloadN X0.here hx rfl (hb hby d5_2) rfl k) ?_
  refine go (T' := s₁) (f' := (mkF m 4 #[.val (.ref a0), .val (.int (0 : Int32))] [(.ref a0), (.int (0 : Int32))])) (by intro t k; exact XS.aloadN X0.here hx rfl (hb hby d5_3) rfl rfl k) ?_
  obtain ⟨T1, X1, e1, st1⟩ := getF X0 hx hZ hown (host := "") (Or.inl (tw hw 30 rfl)) Via.refl e0 Fs (g := (mkF m 4 #[.val (.ref a0), .val (.int (0 : Int32))] [(.ref a0), (.int (0 : Int32))])) rfl rfl (hb hby d5_4)
  refine go st1 ?_
  show Run _ _ _ _ _ _ _ T1 (mkF m 7 #[.val (.ref a0), .val (.int (0 : Int32))] [(.int (0 : Int32)), (.int (0 : Int32))])
  refine go (T' := T1) (f' := (mkF m 28 #[.val (.ref a0), .val (.int (0 : Int32))] [])) (by intro t k; exact XS.icmpYes X1.here hx rfl (pc0 := 7) (pc' := 28) rfl (hb hby d5_7) rfl (flt (by decide : ¬ ((0 : Int32) < (0 : Int32)))).2.1 (by decide) (by decide) k) ?_
  refine go (T' := T1) (f' := (mkF m 29 #[.val (.ref a0), .val (.int (0 : Int32))] [(.ref a0)])) (by intro t k; exact XS.aloadN X1.here hx rfl (hb hby d5_28) rfl rfl k) ?_
  obtain ⟨T2, X2, e2, st2⟩ := getF X1 hx hZ hown (host := "") (Or.inl (tw hw 10 rfl)) Via.refl e1 Fh (g := (mkF m 29 #[.val (.ref a0), .val (.int (0 : Int32))] [(.ref a0)])) rfl rfl (hb hby d5_29)
  refine go st2 ?_
  show Run _ _ _ _ _ _ _ T2 (mkF m 32 #[.val (.ref a0), .val (.int (0 : Int32))] [(.ref bh)])
  refine go (T' := T2) (f' := (mkF m 33 #[.val (.ref a0), .val (.int (0 : Int32))] [(.int (2 : Int32))])) (by intro t k; exact alen X2 hx hZ e2 Ah (z := (2 : Int32)) rfl (g := (mkF m 32 #[.val (.ref a0), .val (.int (0 : Int32))] [(.ref bh)])) rfl rfl (hb hby d5_32) _ k) ?_
  refine go (T' := T2) (f' := (mkF m 34 #[.val (.ref a0), .val (.int (0 : Int32))] [(.ref a0), (.int (2 : Int32))])) (by intro t k; exact XS.aloadN X2.here hx rfl (hb hby d5_33) rfl rfl k) ?_
  obtain ⟨T3, X3, e3, st3⟩ := getF X2 hx hZ hown (host := "") (Or.inl (tw hw 32 rfl)) Via.refl e2 Ft (g := (mkF m 34 #[.val (.ref a0), .val (.int (0 : Int32))] [(.ref a0), (.int (2 : Int32))])) rfl rfl (hb hby d5_34)
  refine go st3 ?_
  show Run _ _ _ _ _ _ _ T3 (mkF m 37 #[.val (.ref a0), .val (.int (0 : Int32))] [(.int (1 : Int32)), (.int (2 : Int32))])
  refine go (T' := T3) (f' := (mkF m 38 #[.val (.ref a0), .val (.int (0 : Int32))] [(.int (1 : Int32))])) (by intro t k; exact XS.isub X3.here hx rfl (hb hby d5_37) rfl k) ?_
  refine go (T' := T3) (f' := (mkF m 39 #[.val (.ref a0), .val (.int (1 : Int32))] [])) (by intro t k; exact XS.istoreN X3.here hx rfl (hb hby d5_38) rfl (l' := #[.val (.ref a0), .val (.int (1 : Int32))]) rfl k) ?_
  refine go (T' := T3) (f' := (mkF m 40 #[.val (.ref a0), .val (.int (1 : Int32))] [(.int (1 : Int32))])) (by intro t k; exact XS.iloadN X3.here hx rfl (hb hby d5_39) rfl k) ?_
  refine go (T' := T3) (f' := (mkF m 41 #[.val (.ref a0), .val (.int (1 : Int32))] [(.ref a0), (.int (1 : Int32))])) (by intro t k; exact XS.aloadN X3.here hx rfl (hb hby d5_40) rfl rfl k) ?_
  obtain ⟨T4, X4, e4, st4⟩ := getF X3 hx hZ hown (host := "") (Or.inl (tw hw 10 rfl)) Via.refl e3 Fh (g := (mkF m 41 #[.val (.ref a0), .val (.int (1 : Int32))] [(.ref a0), (.int (1 : Int32))])) rfl rfl (hb hby d5_41)
  refine go st4 ?_
  show Run _ _ _ _ _ _ _ T4 (mkF m 44 #[.val (.ref a0), .val (.int (1 : Int32))] [(.ref bh), (.int (1 : Int32))])
  refine go (T' := T4) (f' := (mkF m 45 #[.val (.ref a0), .val (.int (1 : Int32))] [(.int (2 : Int32)), (.int (1 : Int32))])) (by intro t k; exact alen X4 hx hZ e4 Ah (z := (2 : Int32)) rfl (g := (mkF m 44 #[.val (.ref a0), .val (.int (1 : Int32))] [(.ref bh), (.int (1 : Int32))])) rfl rfl (hb hby d5_44) _ k) ?_
  refine go (T' := T4) (f' := (mkF m 48 #[.val (.ref a0), .val (.int (1 : Int32))] [])) (by intro t k; exact XS.icmpNo X4.here hx rfl (hb hby d5_45) rfl (tlt (by decide : (1 : Int32) < (2 : Int32))).2.1 k) ?_
  refine go (T' := T4) (f' := (mkF m 49 #[.val (.ref a0), .val (.int (1 : Int32))] [(.ref a0)])) (by intro t k; exact XS.aloadN X4.here hx rfl (hb hby d5_48) rfl rfl k) ?_
  obtain ⟨T5, X5, e5, st5⟩ := getF X4 hx hZ hown (host := "") (Or.inl (tw hw 15 rfl)) Via.refl e4 Fp (g := (mkF m 49 #[.val (.ref a0), .val (.int (1 : Int32))] [(.ref a0)])) rfl rfl (hb hby d5_49)
  refine go st5 ?_
  show Run _ _ _ _ _ _ _ T5 (mkF m 52 #[.val (.ref a0), .val (.int (1 : Int32))] [(.ref bp)])
  refine go (T' := T5) (f' := (mkF m 53 #[.val (.ref a0), .val (.int (1 : Int32))] [(.ref a0), (.ref bp)])) (by intro t k; exact XS.aloadN X5.here hx rfl (hb hby d5_52) rfl rfl k) ?_
  obtain ⟨T6, X6, e6, st6⟩ := getF X5 hx hZ hown (host := "") (Or.inl (tw hw 10 rfl)) Via.refl e5 Fh (g := (mkF m 53 #[.val (.ref a0), .val (.int (1 : Int32))] [(.ref a0), (.ref bp)])) rfl rfl (hb hby d5_53)
  refine go st6 ?_
  show Run _ _ _ _ _ _ _ T6 (mkF m 56 #[.val (.ref a0), .val (.int (1 : Int32))] [(.ref bh), (.ref bp)])
  refine go (T' := T6) (f' := (mkF m 57 #[.val (.ref a0), .val (.int (1 : Int32))] [(.int (1 : Int32)), (.ref bh), (.ref bp)])) (by intro t k; exact XS.iloadN X6.here hx rfl (hb hby d5_56) rfl k) ?_
  refine go (T' := T6) (f' := (mkF m 58 #[.val (.ref a0), .val (.int (1 : Int32))] [(.int (1 : Int32)), (.ref bp)])) (by intro t k; exact ldI X6 hx hZ e6 Ah (j := (1 : Int32)) (v := (.int (1 : Int32))) (by decide) rfl (g := (mkF m 57 #[.val (.ref a0), .val (.int (1 : Int32))] [(.int (1 : Int32)), (.ref bh), (.ref bp)])) rfl rfl (hb hby d5_57) _ k) ?_
  refine go (T' := T6) (f' := (mkF m 59 #[.val (.ref a0), .val (.int (1 : Int32))] [(.int (-1 : Int32)), (.int (1 : Int32)), (.ref bp)])) (by intro t k; exact XS.iconst X6.here hx rfl (hb hby d5_58) k) ?_
  obtain ⟨cl7, Ar7, hin7⟩ := Ary.st (j := (1 : Int32)) Ap (by decide) (by show (1 : Int32).toNatClampNeg < 2; decide)
  obtain ⟨T7, h7, X7, e7, W7, st7⟩ := stI X6 hx hZ e6 Ar7 (j := (1 : Int32)) hin7 (g := (mkF m 59 #[.val (.ref a0), .val (.int (1 : Int32))] [(.int (-1 : Int32)), (.int (1 : Int32)), (.ref bp)])) rfl rfl (hb hby d5_59)
  have K7 : Keep h0 h7 [bp] := Keep.of_wr W7
  have V7 : Ary Z h7 bp .int [(.int (-1 : Int32)), (.int (-1 : Int32))] := Ary.set Ap W7 rfl
  have N7 := Fr.snoc X7 N0 gp
  have E7_a0 := Exa.keep E K7
  have F7_a0_heap := Fld.keep Fh K7 (ninS n0p nin0)
  have F7_a0_priorities := Fld.keep Fd K7 (ninS n0p nin0)
  have F7_a0_places := Fld.keep Fp K7 (ninS n0p nin0)
  have F7_a0_size := Fld.keep Fs K7 (ninS n0p nin0)
  have F7_a0_taken := Fld.keep Ft K7 (ninS n0p nin0)
  have A7_bh := Ary.keep Ah K7 (ninS nhp nin0)
  have A7_bd := Ary.keep Ad K7 (ninS ndp nin0)
  have Z7 : n0 ≤ h7.size := Nat.le_trans Z0 K7.1
  have KK7 : Keep h0 h7 [a0, bh, bd, bp] := (Keep.refl _ _).trans K7 (allS (Or.inl (List.mem_of_getElem? (i := 3) rfl)) all0)
  refine go st7 ?_
  show Run _ _ _ _ _ _ _ T7 (mkF m 60 #[.val (.ref a0), .val (.int (1 : Int32))] [])
  refine go (T' := T7) (f' := (mkF m 63 #[.val (.ref a0), .val (.int (2 : Int32))] [])) (by intro t k; exact XS.iinc X7.here hx rfl (hb hby d5_60) rfl (l' := #[.val (.ref a0), .val (.int (2 : Int32))]) rfl k) ?_
  refine go (T' := T7) (f' := (mkF m 39 #[.val (.ref a0), .val (.int (2 : Int32))] [])) (by intro t k; exact XS.goto X7.here hx rfl (pc0 := 63) (pc' := 39) rfl (hb hby d5_63) (by decide) (by decide) k) ?_
  refine go (T' := T7) (f' := (mkF m 40 #[.val (.ref a0), .val (.int (2 : Int32))] [(.int (2 : Int32))])) (by intro t k; exact XS.iloadN X7.here hx rfl (hb hby d5_39) rfl k) ?_
  refine go (T' := T7) (f' := (mkF m 41 #[.val (.ref a0), .val (.int (2 : Int32))] [(.ref a0), (.int (2 : Int32))])) (by intro t k; exact XS.aloadN X7.here hx rfl (hb hby d5_40) rfl rfl k) ?_
  obtain ⟨T8, X8, e8, st8⟩ := getF X7 hx hZ hown (host := "") (Or.inl (tw hw 10 rfl)) Via.refl e7 F7_a0_heap (g := (mkF m 41 #[.val (.ref a0), .val (.int (2 : Int32))] [(.ref a0), (.int (2 : Int32))])) rfl rfl (hb hby d5_41)
  refine go st8 ?_
  show Run _ _ _ _ _ _ _ T8 (mkF m 44 #[.val (.ref a0), .val (.int (2 : Int32))] [(.ref bh), (.int (2 : Int32))])
  refine go (T' := T8) (f' := (mkF m 45 #[.val (.ref a0), .val (.int (2 : Int32))] [(.int (2 : Int32)), (.int (2 : Int32))])) (by intro t k; exact alen X8 hx hZ e8 A7_bh (z := (2 : Int32)) rfl (g := (mkF m 44 #[.val (.ref a0), .val (.int (2 : Int32))] [(.ref bh), (.int (2 : Int32))])) rfl rfl (hb hby d5_44) _ k) ?_
  refine go (T' := T8) (f' := (mkF m 66 #[.val (.ref a0), .val (.int (2 : Int32))] [])) (by intro t k; exact XS.icmpYes X8.here hx rfl (pc0 := 45) (pc' := 66) rfl (hb hby d5_45) rfl (flt (by decide : ¬ ((2 : Int32) < (2 : Int32)))).2.1 (by decide) (by decide) k) ?_
  refine go (T' := T8) (f' := (mkF m 67 #[.val (.ref a0), .val (.int (2 : Int32))] [(.ref a0)])) (by intro t k; exact XS.aloadN X8.here hx rfl (hb hby d5_66) rfl rfl k) ?_
  refine go (T' := T8) (f' := (mkF m 68 #[.val (.ref a0), .val (.int (2 : Int32))] [(.int (0 : Int32)), (.ref a0)])) (by intro t k; exact XS.iconst X8.here hx rfl (hb hby d5_67) k) ?_
  obtain ⟨T9, h9, X9, e9, W9, st9⟩ := putF X8 hx hZ hown (host := "") (Or.inl (tw hw 30 rfl)) Via.refl e8 F7_a0_size E7_a0 (Or.inl (tw hw 31 rfl)) (tw hw 1 rfl) (ty := .int) (by decide) rfl rfl (g := (mkF m 68 #[.val (.ref a0), .val (.int (2 : Int32))] [(.int (0 : Int32)), (.ref a0)])) rfl rfl (hb hby d5_68)
  have K9 : Keep h7 h9 [a0] := Keep.of_wr W9
  have F9_a0_heap := Fld.other W9 F7_a0_heap (Or.inr (slot_ne (Or.inr (tw hw 11 rfl)) (Or.inl (tw hw 31 rfl)) (by decide) (t := (.array .int)) (t' := .int) (by decide) (by decide)))
  have F9_a0_priorities := Fld.other W9 F7_a0_priorities (Or.inr (slot_ne (Or.inr (tw hw 14 rfl)) (Or.inl (tw hw 31 rfl)) (by decide) (t := (.array .double)) (t' := .int) (by decide) (by decide)))
  have F9_a0_places := Fld.other W9 F7_a0_places (Or.inr (slot_ne (Or.inr (tw hw 16 rfl)) (Or.inl (tw hw 31 rfl)) (by decide) (t := (.array .int)) (t' := .int) (by decide) (by decide)))
  have F9_a0_size : Fld Z h9 a0 "com/example/wayshard/wayshard/service/VertexQueue" "size" "I" (.int (0 : Int32)) := F7_a0_size.same W9
  have F9_a0_taken := Fld.other W9 F7_a0_taken (Or.inr (slot_ne (Or.inl (tw hw 33 rfl)) (Or.inl (tw hw 31 rfl)) (by decide) (t := .int) (t' := .int) (by decide) (by decide)))
  have N9 := Fr.snoc X9 N7 g0
  have E9_a0 := Exa.keep E7_a0 K9
  have A9_bh := Ary.keep A7_bh K9 (ninS (Ne.symm n0h) nin0)
  have A9_bd := Ary.keep A7_bd K9 (ninS (Ne.symm n0d) nin0)
  have A9_bp := Ary.keep V7 K9 (ninS (Ne.symm n0p) nin0)
  have Z9 : n0 ≤ h9.size := Nat.le_trans Z7 K9.1
  have KK9 : Keep h0 h9 [a0, bh, bd, bp] := KK7.trans K9 (allS (Or.inl (List.mem_of_getElem? (i := 0) rfl)) all0)
  refine go st9 ?_
  show Run _ _ _ _ _ _ _ T9 (mkF m 71 #[.val (.ref a0), .val (.int (2 : Int32))] [])
  refine go (T' := T9) (f' := (mkF m 72 #[.val (.ref a0), .val (.int (2 : Int32))] [(.ref a0)])) (by intro t k; exact XS.aloadN X9.here hx rfl (hb hby d5_71) rfl rfl k) ?_
  refine go (T' := T9) (f' := (mkF m 73 #[.val (.ref a0), .val (.int (2 : Int32))] [(.int (0 : Int32)), (.ref a0)])) (by intro t k; exact XS.iconst X9.here hx rfl (hb hby d5_72) k) ?_
  obtain ⟨T10, h10, X10, e10, W10, st10⟩ := putF X9 hx hZ hown (host := "") (Or.inl (tw hw 32 rfl)) Via.refl e9 F9_a0_taken E9_a0 (Or.inl (tw hw 33 rfl)) (tw hw 1 rfl) (ty := .int) (by decide) rfl rfl (g := (mkF m 73 #[.val (.ref a0), .val (.int (2 : Int32))] [(.int (0 : Int32)), (.ref a0)])) rfl rfl (hb hby d5_73)
  have K10 : Keep h9 h10 [a0] := Keep.of_wr W10
  have F10_a0_heap := Fld.other W10 F9_a0_heap (Or.inr (slot_ne (Or.inr (tw hw 11 rfl)) (Or.inl (tw hw 33 rfl)) (by decide) (t := (.array .int)) (t' := .int) (by decide) (by decide)))
  have F10_a0_priorities := Fld.other W10 F9_a0_priorities (Or.inr (slot_ne (Or.inr (tw hw 14 rfl)) (Or.inl (tw hw 33 rfl)) (by decide) (t := (.array .double)) (t' := .int) (by decide) (by decide)))
  have F10_a0_places := Fld.other W10 F9_a0_places (Or.inr (slot_ne (Or.inr (tw hw 16 rfl)) (Or.inl (tw hw 33 rfl)) (by decide) (t := (.array .int)) (t' := .int) (by decide) (by decide)))
  have F10_a0_size := Fld.other W10 F9_a0_size (Or.inr (slot_ne (Or.inl (tw hw 31 rfl)) (Or.inl (tw hw 33 rfl)) (by decide) (t := .int) (t' := .int) (by decide) (by decide)))
  have F10_a0_taken : Fld Z h10 a0 "com/example/wayshard/wayshard/service/VertexQueue" "taken" "I" (.int (0 : Int32)) := F9_a0_taken.same W10
  have N10 := Fr.snoc X10 N9 g0
  have E10_a0 := Exa.keep E9_a0 K10
  have A10_bh := Ary.keep A9_bh K10 (ninS (Ne.symm n0h) nin0)
  have A10_bd := Ary.keep A9_bd K10 (ninS (Ne.symm n0d) nin0)
  have A10_bp := Ary.keep A9_bp K10 (ninS (Ne.symm n0p) nin0)
  have Z10 : n0 ≤ h10.size := Nat.le_trans Z9 K10.1
  have KK10 : Keep h0 h10 [a0, bh, bd, bp] := KK9.trans K10 (allS (Or.inl (List.mem_of_getElem? (i := 0) rfl)) all0)
  refine go st10 ?_
  show Run _ _ _ _ _ _ _ T10 (mkF m 76 #[.val (.ref a0), .val (.int (2 : Int32))] [])
  refine retV X10 hx Bd.returns (hb hby d5_76) hlk (by decide) (by decide) ?_
  show Q5t21 Z a0 bh bd bp x0 x1 h0 n0 _ T10.heap _
  rw [e10]
  exact ⟨rfl, N10, KK10, ⟨E10_a0, F10_a0_heap, F10_a0_priorities, F10_a0_places, F10_a0_size, F10_a0_taken, A10_bh, A10_bd, A10_bp, g0, gh, gd, gp, n0h, n0d, n0p, nhd, nhp, ndp⟩⟩
theorem ef_10t24 (m : MethodId) (x0 : Addr) : entryFrame m #[(.ref x0), (.int (0 : Int32)), (.int (0 : Int32))] 3 = mkF m 0 #[.val (.ref x0), .val (.int (0 : Int32)), .val (.int (0 : Int32))] [] := by first | (simp [entryFrame, mkF, argsToLocals, Value.category]; done) | rfl
def Q10t24 (Z : State) (a0 : Addr) (bh bd bp : Addr) (x0 x1 : UInt64) (h0 : Heap) (n0 : Nat) (v : Option Value) (h : Heap) (L : List Loc) : Prop := v = none ∧ Fr n0 L ∧ Keep h0 h [a0, bh, bd, bp] ∧ own_st Z n0 h a0 bh bd bp (0 : Int32) (0 : Int32) (0 : Int32) (-1 : Int32) (1 : Int32) (0 : Int32) x0 x1
set_option maxRecDepth 65536 in
set_option maxHeartbeats 40000000 in
theorem rm10t24 (l : Launch) (Z : State) (aw : Array Value) (hw : ∀ d ∈ tables_1, d.before aw Z = true) (ws : List Jvm.Cond) (a0 : Addr) (bh bd bp : Addr) (x0 x1 : UInt64) (h0 : Heap) (n0 : Nat) (Z0 : n0 ≤ h0.size) (St : own_st Z n0 h0 a0 bh bd bp (0 : Int32) (0 : Int32) (0 : Int32) (-1 : Int32) (1 : Int32) (0 : Int32) x0 x1) :
    MetFree l mmove (head1 (Jvm.Cond.code mmove prog_64_method_9_code 3 none :: ws) rO0) (fun a U => a = #[(.ref a0), (.int (0 : Int32)), (.int (0 : Int32))] ∧ Z.Warmed39 U.vm ∧ U.heap = h0) (fun _ _ _ _ _ => True) (fun _ U o U' => ∃ v L, o = .returned v ∧ Q10t24 Z a0 bh bd bp x0 x1 h0 n0 v U'.heap L ∧ FrameEnd U o U' L rO0.cells rO0.slots) := by
  refine MetFree.of_bodySF (plainFor_of_name pn_1) hisR ?_
  intro p e s m args below meth c s₁ Bd hml0 hP hK
  obtain ⟨rfl, hZ, hh⟩ := hP
  have hx := Bd.exec
  have hby := Bd.bytes
  have hml : c.maxLocals = 3 := hml0
  have hown : s.vm.findClass "com/example/wayshard/wayshard/service/VertexQueue" = some m.cls := findClass_of_methodNamed Bd.named
  have hnm := (name_of_methodNamed Bd.named Bd.method).1
  have hlk : meth.locks = false := BodyLoose.notSynchronized Bd
  have X0 : Stand p l e rO0 s m #[(.ref a0), (.int (0 : Int32)), (.int (0 : Int32))] below meth c s₁ [] 0 0 := Stand.of_body Bd
  have e0 : s₁.heap = h0 := by rw [← hh, Bd.state]; rfl
  have N0 := Fr.nil n0
  show Run p e s below (Q10t24 Z a0 bh bd bp x0 x1 h0 n0) rO0.cells rO0.slots s₁ (entryFrame m #[(.ref a0), (.int (0 : Int32)), (.int (0 : Int32))] 3)
  rw [ef_10t24]
  obtain ⟨E, Fh, Fd, Fp, Fs, Ft, Ah, Ad, Ap, g0, gh, gd, gp, n0h, n0d, n0p, nhd, nhp, ndp⟩ := St
  show Run _ _ _ _ _ _ _ s₁ (mkF m 0 #[.val (.ref a0), .val (.int (0 : Int32)), .val (.int (0 : Int32))] [])
  refine go (T' := s₁) (f' := (mkF m 1 #[.val (.ref a0), .val (.int (0 : Int32)), .val (.int (0 : Int32))] [(.ref a0)])) (by intro t k; exact XS.aloadN X0.here hx rfl (hb hby d10_0) rfl rfl k) ?_
  obtain ⟨T1, X1, e1, st1⟩ := getF X0 hx hZ hown (host := "") (Or.inl (tw hw 10 rfl)) Via.refl e0 Fh (g := (mkF m 1 #[.val (.ref a0), .val (.int (0 : Int32)), .val (.int (0 : Int32))] [(.ref a0)])) rfl rfl (hb hby d10_1)
  refine go st1 ?_
  show Run _ _ _ _ _ _ _ T1 (mkF m 4 #[.val (.ref a0), .val (.int (0 : Int32)), .val (.int (0 : Int32))] [(.ref bh)])
  refine go (T' := T1) (f' := (mkF m 5 #[.val (.ref a0), .val (.int (0 : Int32)), .val (.int (0 : Int32))] [(.int (0 : Int32)), (.ref bh)])) (by intro t k; exact XS.iloadN X1.here hx rfl (hb hby d10_4) rfl k) ?_
  refine go (T' := T1) (f' := (mkF m 6 #[.val (.ref a0), .val (.int (0 : Int32)), .val (.int (0 : Int32))] [(.int (0 : Int32)), (.int (0 : Int32)), (.ref bh)])) (by intro t k; exact XS.iloadN X1.here hx rfl (hb hby d10_5) rfl k) ?_
  obtain ⟨cl2, Ar2, hin2⟩ := Ary.st (j := (0 : Int32)) Ah (by decide) (by show (0 : Int32).toNatClampNeg < 2; decide)
  obtain ⟨T2, h2, X2, e2, W2, st2⟩ := stI X1 hx hZ e1 Ar2 (j := (0 : Int32)) hin2 (g := (mkF m 6 #[.val (.ref a0), .val (.int (0 : Int32)), .val (.int (0 : Int32))] [(.int (0 : Int32)), (.int (0 : Int32)), (.ref bh)])) rfl rfl (hb hby d10_6)
  have K2 : Keep h0 h2 [bh] := Keep.of_wr W2
  have V2 : Ary Z h2 bh .int [(.int (0 : Int32)), (.int (0 : Int32))] := Ary.set Ah W2 rfl
  have N2 := Fr.snoc X2 N0 gh
  have E2_a0 := Exa.keep E K2
  have F2_a0_heap := Fld.keep Fh K2 (ninS n0h nin0)
  have F2_a0_priorities := Fld.keep Fd K2 (ninS n0h nin0)
  have F2_a0_places := Fld.keep Fp K2 (ninS n0h nin0)
  have F2_a0_size := Fld.keep Fs K2 (ninS n0h nin0)
  have F2_a0_taken := Fld.keep Ft K2 (ninS n0h nin0)
  have A2_bd := Ary.keep Ad K2 (ninS (Ne.symm nhd) nin0)
  have A2_bp := Ary.keep Ap K2 (ninS (Ne.symm nhp) nin0)
  have Z2 : n0 ≤ h2.size := Nat.le_trans Z0 K2.1
  have KK2 : Keep h0 h2 [a0, bh, bd, bp] := (Keep.refl _ _).trans K2 (allS (Or.inl (List.mem_of_getElem? (i := 1) rfl)) all0)
  refine go st2 ?_
  show Run _ _ _ _ _ _ _ T2 (mkF m 7 #[.val (.ref a0), .val (.int (0 : Int32)), .val (.int (0 : Int32))] [])
  refine go (T' := T2) (f' := (mkF m 8 #[.val (.ref a0), .val (.int (0 : Int32)), .val (.int (0 : Int32))] [(.ref a0)])) (by intro t k; exact XS.aloadN X2.here hx rfl (hb hby d10_7) rfl rfl k) ?_
  obtain ⟨T3, X3, e3, st3⟩ := getF X2 hx hZ hown (host := "") (Or.inl (tw hw 15 rfl)) Via.refl e2 F2_a0_places (g := (mkF m 8 #[.val (.ref a0), .val (.int (0 : Int32)), .val (.int (0 : Int32))] [(.ref a0)])) rfl rfl (hb hby d10_8)
  refine go st3 ?_
  show Run _ _ _ _ _ _ _ T3 (mkF m 11 #[.val (.ref a0), .val (.int (0 : Int32)), .val (.int (0 : Int32))] [(.ref bp)])
  refine go (T' := T3) (f' := (mkF m 12 #[.val (.ref a0), .val (.int (0 : Int32)), .val (.int (0 : Int32))] [(.int (0 : Int32)), (.ref bp)])) (by intro t k; exact XS.iloadN X3.here hx rfl (hb hby d10_11) rfl k) ?_
  refine go (T' := T3) (f' := (mkF m 13 #[.val (.ref a0), .val (.int (0 : Int32)), .val (.int (0 : Int32))] [(.int (0 : Int32)), (.int (0 : Int32)), (.ref bp)])) (by intro t k; exact XS.iloadN X3.here hx rfl (hb hby d10_12) rfl k) ?_
  obtain ⟨cl4, Ar4, hin4⟩ := Ary.st (j := (0 : Int32)) A2_bp (by decide) (by show (0 : Int32).toNatClampNeg < 2; decide)
  obtain ⟨T4, h4, X4, e4, W4, st4⟩ := stI X3 hx hZ e3 Ar4 (j := (0 : Int32)) hin4 (g := (mkF m 13 #[.val (.ref a0), .val (.int (0 : Int32)), .val (.int (0 : Int32))] [(.int (0 : Int32)), (.int (0 : Int32)), (.ref bp)])) rfl rfl (hb hby d10_13)
  have K4 : Keep h2 h4 [bp] := Keep.of_wr W4
  have V4 : Ary Z h4 bp .int [(.int (0 : Int32)), (.int (-1 : Int32))] := Ary.set A2_bp W4 rfl
  have N4 := Fr.snoc X4 N2 gp
  have E4_a0 := Exa.keep E2_a0 K4
  have F4_a0_heap := Fld.keep F2_a0_heap K4 (ninS n0p nin0)
  have F4_a0_priorities := Fld.keep F2_a0_priorities K4 (ninS n0p nin0)
  have F4_a0_places := Fld.keep F2_a0_places K4 (ninS n0p nin0)
  have F4_a0_size := Fld.keep F2_a0_size K4 (ninS n0p nin0)
  have F4_a0_taken := Fld.keep F2_a0_taken K4 (ninS n0p nin0)
  have A4_bh := Ary.keep V2 K4 (ninS nhp nin0)
  have A4_bd := Ary.keep A2_bd K4 (ninS ndp nin0)
  have Z4 : n0 ≤ h4.size := Nat.le_trans Z2 K4.1
  have KK4 : Keep h0 h4 [a0, bh, bd, bp] := KK2.trans K4 (allS (Or.inl (List.mem_of_getElem? (i := 3) rfl)) all0)
  refine go st4 ?_
  show Run _ _ _ _ _ _ _ T4 (mkF m 14 #[.val (.ref a0), .val (.int (0 : Int32)), .val (.int (0 : Int32))] [])
  refine retV X4 hx Bd.returns (hb hby d10_14) hlk (by decide) (by decide) ?_
  show Q10t24 Z a0 bh bd bp x0 x1 h0 n0 _ T4.heap _
  rw [e4]
  exact ⟨rfl, N4, KK4, ⟨E4_a0, F4_a0_heap, F4_a0_priorities, F4_a0_places, F4_a0_size, F4_a0_taken, A4_bh, A4_bd, V4, g0, gh, gd, gp, n0h, n0d, n0p, nhd, nhp, ndp⟩⟩
theorem ef_9t23 (m : MethodId) (x0 : Addr) : entryFrame m #[(.ref x0), (.int (0 : Int32))] 5 = mkF m 0 #[.val (.ref x0), .val (.int (0 : Int32)), .unset, .unset, .unset] [] := by first | (simp [entryFrame, mkF, argsToLocals, Value.category]; done) | rfl
def Q9t23 (Z : State) (a0 : Addr) (bh bd bp : Addr) (x0 x1 : UInt64) (h0 : Heap) (n0 : Nat) (v : Option Value) (h : Heap) (L : List Loc) : Prop := v = none ∧ Fr n0 L ∧ Keep h0 h [a0, bh, bd, bp] ∧ own_st Z n0 h a0 bh bd bp (0 : Int32) (0 : Int32) (0 : Int32) (-1 : Int32) (1 : Int32) (0 : Int32) x0 x1
set_option maxRecDepth 65536 in
set_option maxHeartbeats 40000000 in
theorem rm9t23 (l : Launch) (Z : State) (aw : Array Value) (hw : ∀ d ∈ tables_1, d.before aw Z = true) (ws : List Jvm.Cond) (a0 : Addr) (bh bd bp : Addr) (x0 x1 : UInt64) (h0 : Heap) (n0 : Nat) (Z0 : n0 ≤ h0.size) (St : own_st Z n0 h0 a0 bh bd bp (0 : Int32) (0 : Int32) (0 : Int32) (-1 : Int32) (1 : Int32) (0 : Int32) x0 x1) :
    MetFree l msiftUp (head1 (Jvm.Cond.code msiftUp prog_64_method_7_code 5 none :: ws) rO1) (fun a U => a = #[(.ref a0), (.int (0 : Int32))] ∧ Z.Warmed39 U.vm ∧ U.heap = h0) (fun _ _ _ _ _ => True) (fun _ U o U' => ∃ v L, o = .returned v ∧ Q9t23 Z a0 bh bd bp x0 x1 h0 n0 v U'.heap L ∧ FrameEnd U o U' L rO1.cells rO1.slots) := by
  refine MetFree.of_bodySF (plainFor_of_name pn_1) hisR ?_
  intro p e s m args below meth c s₁ Bd hml0 hP hK
  obtain ⟨rfl, hZ, hh⟩ := hP
  have hx := Bd.exec
  have hby := Bd.bytes
  have hml : c.maxLocals = 5 := hml0
  have hown : s.vm.findClass "com/example/wayshard/wayshard/service/VertexQueue" = some m.cls := findClass_of_methodNamed Bd.named
  have hnm := (name_of_methodNamed Bd.named Bd.method).1
  have hlk : meth.locks = false := BodyLoose.notSynchronized Bd
  have X0 : Stand p l e rO1 s m #[(.ref a0), (.int (0 : Int32))] below meth c s₁ [] 0 0 := Stand.of_body Bd
  have e0 : s₁.heap = h0 := by rw [← hh, Bd.state]; rfl
  have N0 := Fr.nil n0
  show Run p e s below (Q9t23 Z a0 bh bd bp x0 x1 h0 n0) rO1.cells rO1.slots s₁ (entryFrame m #[(.ref a0), (.int (0 : Int32))] 5)
  rw [ef_9t23]
  obtain ⟨E, Fh, Fd, Fp, Fs, Ft, Ah, Ad, Ap, g0, gh, gd, gp, n0h, n0d, n0p, nhd, nhp, ndp⟩ := St
  show Run _ _ _ _ _ _ _ s₁ (mkF m 0 #[.val (.ref a0), .val (.int (0 : Int32)), .unset, .unset, .unset] [])
  refine go (T' := s₁) (f' := (mkF m 1 #[.val (.ref a0), .val (.int (0 : Int32)), .unset, .unset, .unset] [(.ref a0)])) (by intro t k; exact XS.aloadN X0.here hx rfl (hb hby d9_0) rfl rfl k) ?_
  obtain ⟨T1, X1, e1, st1⟩ := getF X0 hx hZ hown (host := "") (Or.inl (tw hw 10 rfl)) Via.refl e0 Fh (g := (mkF m 1 #[.val (.ref a0), .val (.int (0 : Int32)), .unset, .unset, .unset] [(.ref a0)])) rfl rfl (hb hby d9_1)
  refine go st1 ?_
  show Run _ _ _ _ _ _ _ T1 (mkF m 4 #[.val (.ref a0), .val (.int (0 : Int32)), .unset, .unset, .unset] [(.ref bh)])
  refine go (T' := T1) (f' := (mkF m 5 #[.val (.ref a0), .val (.int (0 : Int32)), .unset, .unset, .unset] [(.int (0 : Int32)), (.ref bh)])) (by intro t k; exact XS.iloadN X1.here hx rfl (hb hby d9_4) rfl k) ?_
  refine go (T' := T1) (f' := (mkF m 6 #[.val (.ref a0), .val (.int (0 : Int32)), .unset, .unset, .unset] [(.int (0 : Int32))])) (by intro t k; exact ldI X1 hx hZ e1 Ah (j := (0 : Int32)) (v := (.int (0 : Int32))) (by decide) rfl (g := (mkF m 5 #[.val (.ref a0), .val (.int (0 : Int32)), .unset, .unset, .unset] [(.int (0 : Int32)), (.ref bh)])) rfl rfl (hb hby d9_5) _ k) ?_
  refine go (T' := T1) (f' := (mkF m 7 #[.val (.ref a0), .val (.int (0 : Int32)), .val (.int (0 : Int32)), .unset, .unset] [])) (by intro t k; exact XS.istoreN X1.here hx rfl (hb hby d9_6) rfl (l' := #[.val (.ref a0), .val (.int (0 : Int32)), .val (.int (0 : Int32)), .unset, .unset]) rfl k) ?_
  refine go (T' := T1) (f' := (mkF m 8 #[.val (.ref a0), .val (.int (0 : Int32)), .val (.int (0 : Int32)), .unset, .unset] [(.int (0 : Int32))])) (by intro t k; exact XS.iloadN X1.here hx rfl (hb hby d9_7) rfl k) ?_
  refine go (T' := T1) (f' := (mkF m 9 #[.val (.ref a0), .val (.int (0 : Int32)), .val (.int (0 : Int32)), .val (.int (0 : Int32)), .unset] [])) (by intro t k; exact XS.istoreN X1.here hx rfl (hb hby d9_8) rfl (l' := #[.val (.ref a0), .val (.int (0 : Int32)), .val (.int (0 : Int32)), .val (.int (0 : Int32)), .unset]) rfl k) ?_
  refine go (T' := T1) (f' := (mkF m 10 #[.val (.ref a0), .val (.int (0 : Int32)), .val (.int (0 : Int32)), .val (.int (0 : Int32)), .unset] [(.int (0 : Int32))])) (by intro t k; exact XS.iloadN X1.here hx rfl (hb hby d9_9) rfl k) ?_
  refine go (T' := T1) (f' := (mkF m 63 #[.val (.ref a0), .val (.int (0 : Int32)), .val (.int (0 : Int32)), .val (.int (0 : Int32)), .unset] [])) (by intro t k; exact XS.ifYes X1.here hx rfl (pc0 := 10) (pc' := 63) rfl (hb hby d9_10) rfl ((if0 _ _).trans (flt (by decide : ¬ ((0 : Int32) < (0 : Int32)))).2.2.2) (by decide) (by decide) k) ?_
  refine go (T' := T1) (f' := (mkF m 64 #[.val (.ref a0), .val (.int (0 : Int32)), .val (.int (0 : Int32)), .val (.int (0 : Int32)), .unset] [(.ref a0)])) (by intro t k; exact XS.aloadN X1.here hx rfl (hb hby d9_63) rfl rfl k) ?_
  refine go (T' := T1) (f' := (mkF m 65 #[.val (.ref a0), .val (.int (0 : Int32)), .val (.int (0 : Int32)), .val (.int (0 : Int32)), .unset] [(.int (0 : Int32)), (.ref a0)])) (by intro t k; exact XS.iloadN X1.here hx rfl (hb hby d9_64) rfl k) ?_
  refine go (T' := T1) (f' := (mkF m 66 #[.val (.ref a0), .val (.int (0 : Int32)), .val (.int (0 : Int32)), .val (.int (0 : Int32)), .unset] [(.int (0 : Int32)), (.int (0 : Int32)), (.ref a0)])) (by intro t k; exact XS.iloadN X1.here hx rfl (hb hby d9_65) rfl k) ?_
  obtain ⟨cq2, q2, q2'⟩ := (E).cell
  obtain ⟨_, _, ⟨T2, Lz2, kz2, nz2⟩, -, X2, ⟨Lc2, hQ2, lz2, yz2, zz2⟩, st2⟩ := X1.privateBack hx (y := mmove) hown (mvT hZ (tw hw 53 rfl)) (mvT hZ (tw hw 54 rfl)) (selP (y := mmove) (mvT hZ (tw hw 1 rfl)) (Cond.privateMethod_at (mvP hZ (tw hw 55 rfl) (args := #[]))) (mvT hZ (tw hw 54 rfl)) (by decide)) (Cond.privateMethod_at (mvP hZ (tw hw 55 rfl) (args := #[]))) (mvT hZ (tw hw 56 rfl)) (by decide) (backOf (W := 0) (rm10t24 l Z aw hw [] a0 bh bd bp x0 x1  h0 n0 Z0 ⟨E, Fh, Fd, Fp, Fs, Ft, Ah, Ad, Ap, g0, gh, gd, gp, n0h, n0d, n0p, nhd, nhp, ndp⟩) hZ (tw hw 56 rfl) (tw hw 2 rfl) (by decide) (by decide)) (g := (mkF m 66 #[.val (.ref a0), .val (.int (0 : Int32)), .val (.int (0 : Int32)), .val (.int (0 : Int32)), .unset] [(.int (0 : Int32)), (.int (0 : Int32)), (.ref a0)])) rfl (by rw [hml]; rfl) (Steps.refl _) (a := a0) (by rw [e1]; exact q2) q2' (argsL := [(.int (0 : Int32)), (.int (0 : Int32))]) (rest := []) (lenOf pd_28II29V rfl) rfl (by show 2 * 0 + _ ≤ _; exact Nat.le_of_eq rfl) (hb hby d9_66) (fun _ _ => ⟨rfl, e1, (by decide : 0 + 0 ≤ _), (by decide : 0 + 0 ≤ _)⟩)
  dsimp only [Pt.U, Pt.locs, Pt.cells, Pt.slots] at X2 lz2 yz2 zz2 st2 hQ2
  subst lz2 yz2 zz2
  obtain ⟨rfl, N2q, K2, hD2⟩ := hQ2
  have E2_a0 := Exa.keep E K2
  have Z2 : n0 ≤ T2.heap.size := Nat.le_trans Z0 K2.1
  have KK2 : Keep h0 T2.heap [a0, bh, bd, bp] := (Keep.refl _ _).trans K2 (allS (Or.inl (List.mem_of_getElem? (i := 0) rfl)) (allS (Or.inl (List.mem_of_getElem? (i := 1) rfl)) (allS (Or.inl (List.mem_of_getElem? (i := 2) rfl)) (allS (Or.inl (List.mem_of_getElem? (i := 3) rfl)) all0))))
  obtain ⟨E2, Fh2, Fd2, Fp2, Fs2, Ft2, Ah2, Ad2, Ap2, g02, gh2, gd2, gp2, n0h2, n0d2, n0p2, nhd2, nhp2, ndp2⟩ := hD2
  have N2 := Fr.app N0 N2q
  refine go (fun _ k => st2.trans k) ?_
  show Run _ _ _ _ _ _ _ T2 (mkF m 69 #[.val (.ref a0), .val (.int (0 : Int32)), .val (.int (0 : Int32)), .val (.int (0 : Int32)), .unset] [])
  refine retV X2 hx Bd.returns (hb hby d9_69) hlk (by decide) (by decide) ?_
  show Q9t23 Z a0 bh bd bp x0 x1 h0 n0 _ T2.heap _
  exact ⟨rfl, N2, KK2, ⟨E2, Fh2, Fd2, Fp2, Fs2, Ft2, Ah2, Ad2, Ap2, g02, gh2, gd2, gp2, n0h2, n0d2, n0p2, nhd2, nhp2, ndp2⟩⟩
theorem ef_8t22 (m : MethodId) (x0 : Addr) (x2 : UInt64) : entryFrame m #[(.ref x0), (.int (0 : Int32)), (.double x2)] 5 = mkF m 0 #[.val (.ref x0), .val (.int (0 : Int32)), .val (.double x2), .second, .unset] [] := by first | (simp [entryFrame, mkF, argsToLocals, Value.category]; done) | rfl
def Q8t22 (Z : State) (a0 : Addr) (d2 : UInt64) (bh bd bp : Addr) (x0 x1 : UInt64) (h0 : Heap) (n0 : Nat) (v : Option Value) (h : Heap) (L : List Loc) : Prop := v = none ∧ Fr n0 L ∧ Keep h0 h [a0, bh, bd, bp] ∧ own_st Z n0 h a0 bh bd bp (0 : Int32) (0 : Int32) (0 : Int32) (-1 : Int32) (1 : Int32) (0 : Int32) d2 x1
set_option maxRecDepth 65536 in
set_option maxHeartbeats 40000000 in
theorem rm8t22 (l : Launch) (Z : State) (aw : Array Value) (hw : ∀ d ∈ tables_1, d.before aw Z = true) (ws : List Jvm.Cond) (a0 : Addr) (d2 : UInt64) (bh bd bp : Addr) (x0 x1 : UInt64) (h0 : Heap) (n0 : Nat) (Z0 : n0 ≤ h0.size) (St : own_st Z n0 h0 a0 bh bd bp (0 : Int32) (0 : Int32) (-1 : Int32) (-1 : Int32) (0 : Int32) (0 : Int32) x0 x1) :
    MetFree l moffer (head1 (Jvm.Cond.code moffer prog_64_method_5_code 5 none :: ws) rO3) (fun a U => a = #[(.ref a0), (.int (0 : Int32)), (.double d2)] ∧ Z.Warmed39 U.vm ∧ U.heap = h0) (fun _ _ _ _ _ => True) (fun _ U o U' => ∃ v L, o = .returned v ∧ Q8t22 Z a0 d2 bh bd bp x0 x1 h0 n0 v U'.heap L ∧ FrameEnd U o U' L rO3.cells rO3.slots) := by
  refine MetFree.of_bodySF (plainFor_of_name pn_1) hisR ?_
  intro p e s m args below meth c s₁ Bd hml0 hP hK
  obtain ⟨rfl, hZ, hh⟩ := hP
  have hx := Bd.exec
  have hby := Bd.bytes
  have hml : c.maxLocals = 5 := hml0
  have hown : s.vm.findClass "com/example/wayshard/wayshard/service/VertexQueue" = some m.cls := findClass_of_methodNamed Bd.named
  have hnm := (name_of_methodNamed Bd.named Bd.method).1
  have hlk : meth.locks = false := BodyLoose.notSynchronized Bd
  have X0 : Stand p l e rO3 s m #[(.ref a0), (.int (0 : Int32)), (.double d2)] below meth c s₁ [] 0 0 := Stand.of_body Bd
  have e0 : s₁.heap = h0 := by rw [← hh, Bd.state]; rfl
  have N0 := Fr.nil n0
  show Run p e s below (Q8t22 Z a0 d2 bh bd bp x0 x1 h0 n0) rO3.cells rO3.slots s₁ (entryFrame m #[(.ref a0), (.int (0 : Int32)), (.double d2)] 5)
  rw [ef_8t22]
  obtain ⟨E, Fh, Fd, Fp, Fs, Ft, Ah, Ad, Ap, g0, gh, gd, gp, n0h, n0d, n0p, nhd, nhp, ndp⟩ := St
  show Run _ _ _ _ _ _ _ s₁ (mkF m 0 #[.val (.ref a0), .val (.int (0 : Int32)), .val (.double d2), .second, .unset] [])
  refine go (T' := s₁) (f' := (mkF m 1 #[.val (.ref a0), .val (.int (0 : Int32)), .val (.double d2), .second, .unset] [(.ref a0)])) (by intro t k; exact XS.aloadN X0.here hx rfl (hb hby d8_0) rfl rfl k) ?_
  obtain ⟨T1, X1, e1, st1⟩ := getF X0 hx hZ hown (host := "") (Or.inl (tw hw 15 rfl)) Via.refl e0 Fp (g := (mkF m 1 #[.val (.ref a0), .val (.int (0 : Int32)), .val (.double d2), .second, .unset] [(.ref a0)])) rfl rfl (hb hby d8_1)
  refine go st1 ?_
  show Run _ _ _ _ _ _ _ T1 (mkF m 4 #[.val (.ref a0), .val (.int (0 : Int32)), .val (.double d2), .second, .unset] [(.ref bp)])
  refine go (T' := T1) (f' := (mkF m 5 #[.val (.ref a0), .val (.int (0 : Int32)), .val (.double d2), .second, .unset] [(.int (0 : Int32)), (.ref bp)])) (by intro t k; exact XS.iloadN X1.here hx rfl (hb hby d8_4) rfl k) ?_
  refine go (T' := T1) (f' := (mkF m 6 #[.val (.ref a0), .val (.int (0 : Int32)), .val (.double d2), .second, .unset] [(.int (-1 : Int32))])) (by intro t k; exact ldI X1 hx hZ e1 Ap (j := (0 : Int32)) (v := (.int (-1 : Int32))) (by decide) rfl (g := (mkF m 5 #[.val (.ref a0), .val (.int (0 : Int32)), .val (.double d2), .second, .unset] [(.int (0 : Int32)), (.ref bp)])) rfl rfl (hb hby d8_5) _ k) ?_
  refine go (T' := T1) (f' := (mkF m 8 #[.val (.ref a0), .val (.int (0 : Int32)), .val (.double d2), .second, .val (.int (-1 : Int32))] [])) (by intro t k; exact XS.istore X1.here hx rfl (hb hby d8_6) rfl (l' := #[.val (.ref a0), .val (.int (0 : Int32)), .val (.double d2), .second, .val (.int (-1 : Int32))]) rfl k) ?_
  refine go (T' := T1) (f' := (mkF m 9 #[.val (.ref a0), .val (.int (0 : Int32)), .val (.double d2), .second, .val (.int (-1 : Int32))] [(.ref a0)])) (by intro t k; exact XS.aloadN X1.here hx rfl (hb hby d8_8) rfl rfl k) ?_
  obtain ⟨T2, X2, e2, st2⟩ := getF X1 hx hZ hown (host := "") (Or.inl (tw hw 13 rfl)) Via.refl e1 Fd (g := (mkF m 9 #[.val (.ref a0), .val (.int (0 : Int32)), .val (.double d2), .second, .val (.int (-1 : Int32))] [(.ref a0)])) rfl rfl (hb hby d8_9)
  refine go st2 ?_
  show Run _ _ _ _ _ _ _ T2 (mkF m 12 #[.val (.ref a0), .val (.int (0 : Int32)), .val (.double d2), .second, .val (.int (-1 : Int32))] [(.ref bd)])
  refine go (T' := T2) (f' := (mkF m 13 #[.val (.ref a0), .val (.int (0 : Int32)), .val (.double d2), .second, .val (.int (-1 : Int32))] [(.int (0 : Int32)), (.ref bd)])) (by intro t k; exact XS.iloadN X2.here hx rfl (hb hby d8_12) rfl k) ?_
  refine go (T' := T2) (f' := (mkF m 14 #[.val (.ref a0), .val (.int (0 : Int32)), .val (.double d2), .second, .val (.int (-1 : Int32))] [(.double d2), (.int (0 : Int32)), (.ref bd)])) (by intro t k; exact XS.dloadN X2.here hx rfl (hb hby d8_13) rfl k) ?_
  obtain ⟨cl3, Ar3, hin3⟩ := Ary.st (j := (0 : Int32)) Ad (by decide) (by show (0 : Int32).toNatClampNeg < 2; decide)
  obtain ⟨T3, h3, X3, e3, W3, st3⟩ := stD X2 hx hZ e2 Ar3 (j := (0 : Int32)) hin3 (g := (mkF m 14 #[.val (.ref a0), .val (.int (0 : Int32)), .val (.double d2), .second, .val (.int (-1 : Int32))] [(.double d2), (.int (0 : Int32)), (.ref bd)])) rfl rfl (hb hby d8_14)
  have K3 : Keep h0 h3 [bd] := Keep.of_wr W3
  have V3 : Ary Z h3 bd .double [(.double d2), (.double x1)] := Ary.set Ad W3 rfl
  have N3 := Fr.snoc X3 N0 gd
  have E3_a0 := Exa.keep E K3
  have F3_a0_heap := Fld.keep Fh K3 (ninS n0d nin0)
  have F3_a0_priorities := Fld.keep Fd K3 (ninS n0d nin0)
  have F3_a0_places := Fld.keep Fp K3 (ninS n0d nin0)
  have F3_a0_size := Fld.keep Fs K3 (ninS n0d nin0)
  have F3_a0_taken := Fld.keep Ft K3 (ninS n0d nin0)
  have A3_bh := Ary.keep Ah K3 (ninS nhd nin0)
  have A3_bp := Ary.keep Ap K3 (ninS (Ne.symm ndp) nin0)
  have Z3 : n0 ≤ h3.size := Nat.le_trans Z0 K3.1
  have KK3 : Keep h0 h3 [a0, bh, bd, bp] := (Keep.refl _ _).trans K3 (allS (Or.inl (List.mem_of_getElem? (i := 2) rfl)) all0)
  refine go st3 ?_
  show Run _ _ _ _ _ _ _ T3 (mkF m 15 #[.val (.ref a0), .val (.int (0 : Int32)), .val (.double d2), .second, .val (.int (-1 : Int32))] [])
  refine go (T' := T3) (f' := (mkF m 17 #[.val (.ref a0), .val (.int (0 : Int32)), .val (.double d2), .second, .val (.int (-1 : Int32))] [(.int (-1 : Int32))])) (by intro t k; exact XS.iload X3.here hx rfl (hb hby d8_15) rfl k) ?_
  refine go (T' := T3) (f' := (mkF m 18 #[.val (.ref a0), .val (.int (0 : Int32)), .val (.double d2), .second, .val (.int (-1 : Int32))] [(.int (-1 : Int32)), (.int (-1 : Int32))])) (by intro t k; exact XS.iconst X3.here hx rfl (hb hby d8_17) k) ?_
  refine go (T' := T3) (f' := (mkF m 21 #[.val (.ref a0), .val (.int (0 : Int32)), .val (.double d2), .second, .val (.int (-1 : Int32))] [])) (by intro t k; exact XS.icmpNo X3.here hx rfl (hb hby d8_18) rfl (teq (rfl : (-1 : Int32) = (-1 : Int32))).2 k) ?_
  refine go (T' := T3) (f' := (mkF m 22 #[.val (.ref a0), .val (.int (0 : Int32)), .val (.double d2), .second, .val (.int (-1 : Int32))] [(.ref a0)])) (by intro t k; exact XS.aloadN X3.here hx rfl (hb hby d8_21) rfl rfl k) ?_
  obtain ⟨T4, X4, e4, st4⟩ := getF X3 hx hZ hown (host := "") (Or.inl (tw hw 10 rfl)) Via.refl e3 F3_a0_heap (g := (mkF m 22 #[.val (.ref a0), .val (.int (0 : Int32)), .val (.double d2), .second, .val (.int (-1 : Int32))] [(.ref a0)])) rfl rfl (hb hby d8_22)
  refine go st4 ?_
  show Run _ _ _ _ _ _ _ T4 (mkF m 25 #[.val (.ref a0), .val (.int (0 : Int32)), .val (.double d2), .second, .val (.int (-1 : Int32))] [(.ref bh)])
  refine go (T' := T4) (f' := (mkF m 26 #[.val (.ref a0), .val (.int (0 : Int32)), .val (.double d2), .second, .val (.int (-1 : Int32))] [(.ref a0), (.ref bh)])) (by intro t k; exact XS.aloadN X4.here hx rfl (hb hby d8_25) rfl rfl k) ?_
  obtain ⟨T5, X5, e5, st5⟩ := getF X4 hx hZ hown (host := "") (Or.inl (tw hw 30 rfl)) Via.refl e4 F3_a0_size (g := (mkF m 26 #[.val (.ref a0), .val (.int (0 : Int32)), .val (.double d2), .second, .val (.int (-1 : Int32))] [(.ref a0), (.ref bh)])) rfl rfl (hb hby d8_26)
  refine go st5 ?_
  show Run _ _ _ _ _ _ _ T5 (mkF m 29 #[.val (.ref a0), .val (.int (0 : Int32)), .val (.double d2), .second, .val (.int (-1 : Int32))] [(.int (0 : Int32)), (.ref bh)])
  refine go (T' := T5) (f' := (mkF m 30 #[.val (.ref a0), .val (.int (0 : Int32)), .val (.double d2), .second, .val (.int (-1 : Int32))] [(.int (0 : Int32)), (.int (0 : Int32)), (.ref bh)])) (by intro t k; exact XS.iloadN X5.here hx rfl (hb hby d8_29) rfl k) ?_
  obtain ⟨cl6, Ar6, hin6⟩ := Ary.st (j := (0 : Int32)) A3_bh (by decide) (by show (0 : Int32).toNatClampNeg < 2; decide)
  obtain ⟨T6, h6, X6, e6, W6, st6⟩ := stI X5 hx hZ e5 Ar6 (j := (0 : Int32)) hin6 (g := (mkF m 30 #[.val (.ref a0), .val (.int (0 : Int32)), .val (.double d2), .second, .val (.int (-1 : Int32))] [(.int (0 : Int32)), (.int (0 : Int32)), (.ref bh)])) rfl rfl (hb hby d8_30)
  have K6 : Keep h3 h6 [bh] := Keep.of_wr W6
  have V6 : Ary Z h6 bh .int [(.int (0 : Int32)), (.int (0 : Int32))] := Ary.set A3_bh W6 rfl
  have N6 := Fr.snoc X6 N3 gh
  have E6_a0 := Exa.keep E3_a0 K6
  have F6_a0_heap := Fld.keep F3_a0_heap K6 (ninS n0h nin0)
  have F6_a0_priorities := Fld.keep F3_a0_priorities K6 (ninS n0h nin0)
  have F6_a0_places := Fld.keep F3_a0_places K6 (ninS n0h nin0)
  have F6_a0_size := Fld.keep F3_a0_size K6 (ninS n0h nin0)
  have F6_a0_taken := Fld.keep F3_a0_taken K6 (ninS n0h nin0)
  have A6_bd := Ary.keep V3 K6 (ninS (Ne.symm nhd) nin0)
  have A6_bp := Ary.keep A3_bp K6 (ninS (Ne.symm nhp) nin0)
  have Z6 : n0 ≤ h6.size := Nat.le_trans Z3 K6.1
  have KK6 : Keep h0 h6 [a0, bh, bd, bp] := KK3.trans K6 (allS (Or.inl (List.mem_of_getElem? (i := 1) rfl)) all0)
  refine go st6 ?_
  show Run _ _ _ _ _ _ _ T6 (mkF m 31 #[.val (.ref a0), .val (.int (0 : Int32)), .val (.double d2), .second, .val (.int (-1 : Int32))] [])
  refine go (T' := T6) (f' := (mkF m 32 #[.val (.ref a0), .val (.int (0 : Int32)), .val (.double d2), .second, .val (.int (-1 : Int32))] [(.ref a0)])) (by intro t k; exact XS.aloadN X6.here hx rfl (hb hby d8_31) rfl rfl k) ?_
  obtain ⟨T7, X7, e7, st7⟩ := getF X6 hx hZ hown (host := "") (Or.inl (tw hw 15 rfl)) Via.refl e6 F6_a0_places (g := (mkF m 32 #[.val (.ref a0), .val (.int (0 : Int32)), .val (.double d2), .second, .val (.int (-1 : Int32))] [(.ref a0)])) rfl rfl (hb hby d8_32)
  refine go st7 ?_
  show Run _ _ _ _ _ _ _ T7 (mkF m 35 #[.val (.ref a0), .val (.int (0 : Int32)), .val (.double d2), .second, .val (.int (-1 : Int32))] [(.ref bp)])
  refine go (T' := T7) (f' := (mkF m 36 #[.val (.ref a0), .val (.int (0 : Int32)), .val (.double d2), .second, .val (.int (-1 : Int32))] [(.int (0 : Int32)), (.ref bp)])) (by intro t k; exact XS.iloadN X7.here hx rfl (hb hby d8_35) rfl k) ?_
  refine go (T' := T7) (f' := (mkF m 37 #[.val (.ref a0), .val (.int (0 : Int32)), .val (.double d2), .second, .val (.int (-1 : Int32))] [(.ref a0), (.int (0 : Int32)), (.ref bp)])) (by intro t k; exact XS.aloadN X7.here hx rfl (hb hby d8_36) rfl rfl k) ?_
  obtain ⟨T8, X8, e8, st8⟩ := getF X7 hx hZ hown (host := "") (Or.inl (tw hw 30 rfl)) Via.refl e7 F6_a0_size (g := (mkF m 37 #[.val (.ref a0), .val (.int (0 : Int32)), .val (.double d2), .second, .val (.int (-1 : Int32))] [(.ref a0), (.int (0 : Int32)), (.ref bp)])) rfl rfl (hb hby d8_37)
  refine go st8 ?_
  show Run _ _ _ _ _ _ _ T8 (mkF m 40 #[.val (.ref a0), .val (.int (0 : Int32)), .val (.double d2), .second, .val (.int (-1 : Int32))] [(.int (0 : Int32)), (.int (0 : Int32)), (.ref bp)])
  obtain ⟨cl9, Ar9, hin9⟩ := Ary.st (j := (0 : Int32)) A6_bp (by decide) (by show (0 : Int32).toNatClampNeg < 2; decide)
  obtain ⟨T9, h9, X9, e9, W9, st9⟩ := stI X8 hx hZ e8 Ar9 (j := (0 : Int32)) hin9 (g := (mkF m 40 #[.val (.ref a0), .val (.int (0 : Int32)), .val (.double d2), .second, .val (.int (-1 : Int32))] [(.int (0 : Int32)), (.int (0 : Int32)), (.ref bp)])) rfl rfl (hb hby d8_40)
  have K9 : Keep h6 h9 [bp] := Keep.of_wr W9
  have V9 : Ary Z h9 bp .int [(.int (0 : Int32)), (.int (-1 : Int32))] := Ary.set A6_bp W9 rfl
  have N9 := Fr.snoc X9 N6 gp
  have E9_a0 := Exa.keep E6_a0 K9
  have F9_a0_heap := Fld.keep F6_a0_heap K9 (ninS n0p nin0)
  have F9_a0_priorities := Fld.keep F6_a0_priorities K9 (ninS n0p nin0)
  have F9_a0_places := Fld.keep F6_a0_places K9 (ninS n0p nin0)
  have F9_a0_size := Fld.keep F6_a0_size K9 (ninS n0p nin0)
  have F9_a0_taken := Fld.keep F6_a0_taken K9 (ninS n0p nin0)
  have A9_bh := Ary.keep V6 K9 (ninS nhp nin0)
  have A9_bd := Ary.keep A6_bd K9 (ninS ndp nin0)
  have Z9 : n0 ≤ h9.size := Nat.le_trans Z6 K9.1
  have KK9 : Keep h0 h9 [a0, bh, bd, bp] := KK6.trans K9 (allS (Or.inl (List.mem_of_getElem? (i := 3) rfl)) all0)
  refine go st9 ?_
  show Run _ _ _ _ _ _ _ T9 (mkF m 41 #[.val (.ref a0), .val (.int (0 : Int32)), .val (.double d2), .second, .val (.int (-1 : Int32))] [])
  refine go (T' := T9) (f' := (mkF m 42 #[.val (.ref a0), .val (.int (0 : Int32)), .val (.double d2), .second, .val (.int (-1 : Int32))] [(.ref a0)])) (by intro t k; exact XS.aloadN X9.here hx rfl (hb hby d8_41) rfl rfl k) ?_
  refine go (T' := T9) (f' := (mkF m 43 #[.val (.ref a0), .val (.int (0 : Int32)), .val (.double d2), .second, .val (.int (-1 : Int32))] [(.ref a0), (.ref a0)])) (by intro t k; exact XS.aloadN X9.here hx rfl (hb hby d8_42) rfl rfl k) ?_
  refine go (T' := T9) (f' := (mkF m 44 #[.val (.ref a0), .val (.int (0 : Int32)), .val (.double d2), .second, .val (.int (-1 : Int32))] [(.ref a0), (.ref a0), (.ref a0)])) (by intro t k; exact XS.dup X9.here hx rfl (hb hby d8_43) rfl rfl k) ?_
  obtain ⟨T10, X10, e10, st10⟩ := getF X9 hx hZ hown (host := "") (Or.inl (tw hw 30 rfl)) Via.refl e9 F9_a0_size (g := (mkF m 44 #[.val (.ref a0), .val (.int (0 : Int32)), .val (.double d2), .second, .val (.int (-1 : Int32))] [(.ref a0), (.ref a0), (.ref a0)])) rfl rfl (hb hby d8_44)
  refine go st10 ?_
  show Run _ _ _ _ _ _ _ T10 (mkF m 47 #[.val (.ref a0), .val (.int (0 : Int32)), .val (.double d2), .second, .val (.int (-1 : Int32))] [(.int (0 : Int32)), (.ref a0), (.ref a0)])
  refine go (T' := T10) (f' := (mkF m 48 #[.val (.ref a0), .val (.int (0 : Int32)), .val (.double d2), .second, .val (.int (-1 : Int32))] [(.int (0 : Int32)), (.ref a0), (.int (0 : Int32)), (.ref a0)])) (by intro t k; exact XS.dupX1 X10.here hx rfl (hb hby d8_47) rfl rfl rfl k) ?_
  refine go (T' := T10) (f' := (mkF m 49 #[.val (.ref a0), .val (.int (0 : Int32)), .val (.double d2), .second, .val (.int (-1 : Int32))] [(.int (1 : Int32)), (.int (0 : Int32)), (.ref a0), (.int (0 : Int32)), (.ref a0)])) (by intro t k; exact XS.iconst X10.here hx rfl (hb hby d8_48) k) ?_
  refine go (T' := T10) (f' := (mkF m 50 #[.val (.ref a0), .val (.int (0 : Int32)), .val (.double d2), .second, .val (.int (-1 : Int32))] [(.int (1 : Int32)), (.ref a0), (.int (0 : Int32)), (.ref a0)])) (by intro t k; exact XS.iadd X10.here hx rfl (hb hby d8_49) rfl k) ?_
  obtain ⟨T11, h11, X11, e11, W11, st11⟩ := putF X10 hx hZ hown (host := "") (Or.inl (tw hw 30 rfl)) Via.refl e10 F9_a0_size E9_a0 (Or.inl (tw hw 31 rfl)) (tw hw 1 rfl) (ty := .int) (by decide) rfl rfl (g := (mkF m 50 #[.val (.ref a0), .val (.int (0 : Int32)), .val (.double d2), .second, .val (.int (-1 : Int32))] [(.int (1 : Int32)), (.ref a0), (.int (0 : Int32)), (.ref a0)])) rfl rfl (hb hby d8_50)
  have K11 : Keep h9 h11 [a0] := Keep.of_wr W11
  have F11_a0_heap := Fld.other W11 F9_a0_heap (Or.inr (slot_ne (Or.inr (tw hw 11 rfl)) (Or.inl (tw hw 31 rfl)) (by decide) (t := (.array .int)) (t' := .int) (by decide) (by decide)))
  have F11_a0_priorities := Fld.other W11 F9_a0_priorities (Or.inr (slot_ne (Or.inr (tw hw 14 rfl)) (Or.inl (tw hw 31 rfl)) (by decide) (t := (.array .double)) (t' := .int) (by decide) (by decide)))
  have F11_a0_places := Fld.other W11 F9_a0_places (Or.inr (slot_ne (Or.inr (tw hw 16 rfl)) (Or.inl (tw hw 31 rfl)) (by decide) (t := (.array .int)) (t' := .int) (by decide) (by decide)))
  have F11_a0_size : Fld Z h11 a0 "com/example/wayshard/wayshard/service/VertexQueue" "size" "I" (.int (1 : Int32)) := F9_a0_size.same W11
  have F11_a0_taken := Fld.other W11 F9_a0_taken (Or.inr (slot_ne (Or.inl (tw hw 33 rfl)) (Or.inl (tw hw 31 rfl)) (by decide) (t := .int) (t' := .int) (by decide) (by decide)))
  have N11 := Fr.snoc X11 N9 g0
  have E11_a0 := Exa.keep E9_a0 K11
  have A11_bh := Ary.keep A9_bh K11 (ninS (Ne.symm n0h) nin0)
  have A11_bd := Ary.keep A9_bd K11 (ninS (Ne.symm n0d) nin0)
  have A11_bp := Ary.keep V9 K11 (ninS (Ne.symm n0p) nin0)
  have Z11 : n0 ≤ h11.size := Nat.le_trans Z9 K11.1
  have KK11 : Keep h0 h11 [a0, bh, bd, bp] := KK9.trans K11 (allS (Or.inl (List.mem_of_getElem? (i := 0) rfl)) all0)
  refine go st11 ?_
  show Run _ _ _ _ _ _ _ T11 (mkF m 53 #[.val (.ref a0), .val (.int (0 : Int32)), .val (.double d2), .second, .val (.int (-1 : Int32))] [(.int (0 : Int32)), (.ref a0)])
  obtain ⟨cq12, q12, q12'⟩ := (E11_a0).cell
  obtain ⟨_, _, ⟨T12, Lz12, kz12, nz12⟩, -, X12, ⟨Lc12, hQ12, lz12, yz12, zz12⟩, st12⟩ := X11.privateBack hx (y := msiftUp) hown (mvT hZ (tw hw 49 rfl)) (mvT hZ (tw hw 50 rfl)) (selP (y := msiftUp) (mvT hZ (tw hw 1 rfl)) (Cond.privateMethod_at (mvP hZ (tw hw 51 rfl) (args := #[]))) (mvT hZ (tw hw 50 rfl)) (by decide)) (Cond.privateMethod_at (mvP hZ (tw hw 51 rfl) (args := #[]))) (mvT hZ (tw hw 52 rfl)) (by decide) (backOf (W := 0) (rm9t23 l Z aw hw [] a0 bh bd bp d2 x1  h11 n0 Z11 ⟨E11_a0, F11_a0_heap, F11_a0_priorities, F11_a0_places, F11_a0_size, F11_a0_taken, A11_bh, A11_bd, A11_bp, g0, gh, gd, gp, n0h, n0d, n0p, nhd, nhp, ndp⟩) hZ (tw hw 52 rfl) (tw hw 2 rfl) (by decide) (by decide)) (g := (mkF m 53 #[.val (.ref a0), .val (.int (0 : Int32)), .val (.double d2), .second, .val (.int (-1 : Int32))] [(.int (0 : Int32)), (.ref a0)])) rfl (by rw [hml]; rfl) (Steps.refl _) (a := a0) (by rw [e11]; exact q12) q12' (argsL := [(.int (0 : Int32))]) (rest := []) (lenOf pd_28I29V rfl) rfl (by show 2 * 0 + _ ≤ _; exact Nat.le_of_eq rfl) (hb hby d8_53) (fun _ _ => ⟨rfl, e11, (by decide : 0 + 0 ≤ _), (by decide : 0 + 0 ≤ _)⟩)
  dsimp only [Pt.U, Pt.locs, Pt.cells, Pt.slots] at X12 lz12 yz12 zz12 st12 hQ12
  subst lz12 yz12 zz12
  obtain ⟨rfl, N12q, K12, hD12⟩ := hQ12
  have E12_a0 := Exa.keep E11_a0 K12
  have Z12 : n0 ≤ T12.heap.size := Nat.le_trans Z11 K12.1
  have KK12 : Keep h0 T12.heap [a0, bh, bd, bp] := KK11.trans K12 (allS (Or.inl (List.mem_of_getElem? (i := 0) rfl)) (allS (Or.inl (List.mem_of_getElem? (i := 1) rfl)) (allS (Or.inl (List.mem_of_getElem? (i := 2) rfl)) (allS (Or.inl (List.mem_of_getElem? (i := 3) rfl)) all0))))
  obtain ⟨E12, Fh12, Fd12, Fp12, Fs12, Ft12, Ah12, Ad12, Ap12, g012, gh12, gd12, gp12, n0h12, n0d12, n0p12, nhd12, nhp12, ndp12⟩ := hD12
  have N12 := Fr.app N11 N12q
  refine go (fun _ k => st12.trans k) ?_
  show Run _ _ _ _ _ _ _ T12 (mkF m 56 #[.val (.ref a0), .val (.int (0 : Int32)), .val (.double d2), .second, .val (.int (-1 : Int32))] [])
  refine go (T' := T12) (f' := (mkF m 65 #[.val (.ref a0), .val (.int (0 : Int32)), .val (.double d2), .second, .val (.int (-1 : Int32))] [])) (by intro t k; exact XS.goto X12.here hx rfl (pc0 := 56) (pc' := 65) rfl (hb hby d8_56) (by decide) (by decide) k) ?_
  refine retV X12 hx Bd.returns (hb hby d8_65) hlk (by decide) (by decide) ?_
  show Q8t22 Z a0 d2 bh bd bp x0 x1 h0 n0 _ T12.heap _
  exact ⟨rfl, N12, KK12, ⟨E12, Fh12, Fd12, Fp12, Fs12, Ft12, Ah12, Ad12, Ap12, g012, gh12, gd12, gp12, n0h12, n0d12, n0p12, nhd12, nhp12, ndp12⟩⟩
theorem ef_5t25 (m : MethodId) (x0 : Addr) : entryFrame m #[(.ref x0)] 2 = mkF m 0 #[.val (.ref x0), .unset] [] := by first | (simp [entryFrame, mkF, argsToLocals, Value.category]; done) | rfl
def Q5t25 (Z : State) (a0 : Addr) (bh bd bp : Addr) (x0 x1 : UInt64) (h0 : Heap) (n0 : Nat) (v : Option Value) (h : Heap) (L : List Loc) : Prop := v = none ∧ Fr n0 L ∧ Keep h0 h [a0, bh, bd, bp] ∧ own_st Z n0 h a0 bh bd bp (0 : Int32) (0 : Int32) (-1 : Int32) (-1 : Int32) (0 : Int32) (0 : Int32) x0 x1
set_option maxRecDepth 65536 in
set_option maxHeartbeats 40000000 in
theorem rm5t25 (l : Launch) (Z : State) (aw : Array Value) (hw : ∀ d ∈ tables_1, d.before aw Z = true) (ws : List Jvm.Cond) (a0 : Addr) (bh bd bp : Addr) (x0 x1 : UInt64) (h0 : Heap) (n0 : Nat) (Z0 : n0 ≤ h0.size) (St : own_st Z n0 h0 a0 bh bd bp (0 : Int32) (0 : Int32) (0 : Int32) (-1 : Int32) (1 : Int32) (0 : Int32) x0 x1) :
    MetFree l mclear (head1 (Jvm.Cond.code mclear prog_64_method_3_code 2 none :: ws) rO0) (fun a U => a = #[(.ref a0)] ∧ Z.Warmed39 U.vm ∧ U.heap = h0) (fun _ _ _ _ _ => True) (fun _ U o U' => ∃ v L, o = .returned v ∧ Q5t25 Z a0 bh bd bp x0 x1 h0 n0 v U'.heap L ∧ FrameEnd U o U' L rO0.cells rO0.slots) := by
  refine MetFree.of_bodySF (plainFor_of_name pn_1) hisR ?_
  intro p e s m args below meth c s₁ Bd hml0 hP hK
  obtain ⟨rfl, hZ, hh⟩ := hP
  have hx := Bd.exec
  have hby := Bd.bytes
  have hml : c.maxLocals = 2 := hml0
  have hown : s.vm.findClass "com/example/wayshard/wayshard/service/VertexQueue" = some m.cls := findClass_of_methodNamed Bd.named
  have hnm := (name_of_methodNamed Bd.named Bd.method).1
  have hlk : meth.locks = false := BodyLoose.notSynchronized Bd
  have X0 : Stand p l e rO0 s m #[(.ref a0)] below meth c s₁ [] 0 0 := Stand.of_body Bd
  have e0 : s₁.heap = h0 := by rw [← hh, Bd.state]; rfl
  have N0 := Fr.nil n0
  show Run p e s below (Q5t25 Z a0 bh bd bp x0 x1 h0 n0) rO0.cells rO0.slots s₁ (entryFrame m #[(.ref a0)] 2)
  rw [ef_5t25]
  obtain ⟨E, Fh, Fd, Fp, Fs, Ft, Ah, Ad, Ap, g0, gh, gd, gp, n0h, n0d, n0p, nhd, nhp, ndp⟩ := St
  show Run _ _ _ _ _ _ _ s₁ (mkF m 0 #[.val (.ref a0), .unset] [])
  refine go (T' := s₁) (f' := (mkF m 1 #[.val (.ref a0), .unset] [(.int (0 : Int32))])) (by intro t k; exact XS.iconst X0.here hx rfl (hb hby d5_0) k) ?_
  refine go (T' := s₁) (f' := (mkF m 2 #[.val (.ref a0), .val (.int (0 : Int32))] [])) (by intro t k; exact XS.istoreN X0.here hx rfl (hb hby d5_1) rfl (l' := #[.val (.ref a0), .val (.int (0 : Int32))]) rfl k) ?_
  refine go (T' := s₁) (f' := (mkF m 3 #[.val (.ref a0), .val (.int (0 : Int32))] [(.int (0 : Int32))])) (by intro t k; exact XS.iloadN X0.here hx rfl (hb hby d5_2) rfl k) ?_
  refine go (T' := s₁) (f' := (mkF m 4 #[.val (.ref a0), .val (.int (0 : Int32))] [(.ref a0), (.int (0 : Int32))])) (by intro t k; exact XS.aloadN X0.here hx rfl (hb hby d5_3) rfl rfl k) ?_
  obtain ⟨T1, X1, e1, st1⟩ := getF X0 hx hZ hown (host := "") (Or.inl (tw hw 30 rfl)) Via.refl e0 Fs (g := (mkF m 4 #[.val (.ref a0), .val (.int (0 : Int32))] [(.ref a0), (.int (0 : Int32))])) rfl rfl (hb hby d5_4)
  refine go st1 ?_
  show Run _ _ _ _ _ _ _ T1 (mkF m 7 #[.val (.ref a0), .val (.int (0 : Int32))] [(.int (1 : Int32)), (.int (0 : Int32))])
  refine go (T' := T1) (f' := (mkF m 10 #[.val (.ref a0), .val (.int (0 : Int32))] [])) (by intro t k; exact XS.icmpNo X1.here hx rfl (hb hby d5_7) rfl (tlt (by decide : (0 : Int32) < (1 : Int32))).2.1 k) ?_
  refine go (T' := T1) (f' := (mkF m 11 #[.val (.ref a0), .val (.int (0 : Int32))] [(.ref a0)])) (by intro t k; exact XS.aloadN X1.here hx rfl (hb hby d5_10) rfl rfl k) ?_
  obtain ⟨T2, X2, e2, st2⟩ := getF X1 hx hZ hown (host := "") (Or.inl (tw hw 15 rfl)) Via.refl e1 Fp (g := (mkF m 11 #[.val (.ref a0), .val (.int (0 : Int32))] [(.ref a0)])) rfl rfl (hb hby d5_11)
  refine go st2 ?_
  show Run _ _ _ _ _ _ _ T2 (mkF m 14 #[.val (.ref a0), .val (.int (0 : Int32))] [(.ref bp)])
  refine go (T' := T2) (f' := (mkF m 15 #[.val (.ref a0), .val (.int (0 : Int32))] [(.ref a0), (.ref bp)])) (by intro t k; exact XS.aloadN X2.here hx rfl (hb hby d5_14) rfl rfl k) ?_
  obtain ⟨T3, X3, e3, st3⟩ := getF X2 hx hZ hown (host := "") (Or.inl (tw hw 10 rfl)) Via.refl e2 Fh (g := (mkF m 15 #[.val (.ref a0), .val (.int (0 : Int32))] [(.ref a0), (.ref bp)])) rfl rfl (hb hby d5_15)
  refine go st3 ?_
  show Run _ _ _ _ _ _ _ T3 (mkF m 18 #[.val (.ref a0), .val (.int (0 : Int32))] [(.ref bh), (.ref bp)])
  refine go (T' := T3) (f' := (mkF m 19 #[.val (.ref a0), .val (.int (0 : Int32))] [(.int (0 : Int32)), (.ref bh), (.ref bp)])) (by intro t k; exact XS.iloadN X3.here hx rfl (hb hby d5_18) rfl k) ?_
  refine go (T' := T3) (f' := (mkF m 20 #[.val (.ref a0), .val (.int (0 : Int32))] [(.int (0 : Int32)), (.ref bp)])) (by intro t k; exact ldI X3 hx hZ e3 Ah (j := (0 : Int32)) (v := (.int (0 : Int32))) (by decide) rfl (g := (mkF m 19 #[.val (.ref a0), .val (.int (0 : Int32))] [(.int (0 : Int32)), (.ref bh), (.ref bp)])) rfl rfl (hb hby d5_19) _ k) ?_
  refine go (T' := T3) (f' := (mkF m 21 #[.val (.ref a0), .val (.int (0 : Int32))] [(.int (-1 : Int32)), (.int (0 : Int32)), (.ref bp)])) (by intro t k; exact XS.iconst X3.here hx rfl (hb hby d5_20) k) ?_
  obtain ⟨cl4, Ar4, hin4⟩ := Ary.st (j := (0 : Int32)) Ap (by decide) (by show (0 : Int32).toNatClampNeg < 2; decide)
  obtain ⟨T4, h4, X4, e4, W4, st4⟩ := stI X3 hx hZ e3 Ar4 (j := (0 : Int32)) hin4 (g := (mkF m 21 #[.val (.ref a0), .val (.int (0 : Int32))] [(.int (-1 : Int32)), (.int (0 : Int32)), (.ref bp)])) rfl rfl (hb hby d5_21)
  have K4 : Keep h0 h4 [bp] := Keep.of_wr W4
  have V4 : Ary Z h4 bp .int [(.int (-1 : Int32)), (.int (-1 : Int32))] := Ary.set Ap W4 rfl
  have N4 := Fr.snoc X4 N0 gp
  have E4_a0 := Exa.keep E K4
  have F4_a0_heap := Fld.keep Fh K4 (ninS n0p nin0)
  have F4_a0_priorities := Fld.keep Fd K4 (ninS n0p nin0)
  have F4_a0_places := Fld.keep Fp K4 (ninS n0p nin0)
  have F4_a0_size := Fld.keep Fs K4 (ninS n0p nin0)
  have F4_a0_taken := Fld.keep Ft K4 (ninS n0p nin0)
  have A4_bh := Ary.keep Ah K4 (ninS nhp nin0)
  have A4_bd := Ary.keep Ad K4 (ninS ndp nin0)
  have Z4 : n0 ≤ h4.size := Nat.le_trans Z0 K4.1
  have KK4 : Keep h0 h4 [a0, bh, bd, bp] := (Keep.refl _ _).trans K4 (allS (Or.inl (List.mem_of_getElem? (i := 3) rfl)) all0)
  refine go st4 ?_
  show Run _ _ _ _ _ _ _ T4 (mkF m 22 #[.val (.ref a0), .val (.int (0 : Int32))] [])
  refine go (T' := T4) (f' := (mkF m 25 #[.val (.ref a0), .val (.int (1 : Int32))] [])) (by intro t k; exact XS.iinc X4.here hx rfl (hb hby d5_22) rfl (l' := #[.val (.ref a0), .val (.int (1 : Int32))]) rfl k) ?_
  refine go (T' := T4) (f' := (mkF m 2 #[.val (.ref a0), .val (.int (1 : Int32))] [])) (by intro t k; exact XS.goto X4.here hx rfl (pc0 := 25) (pc' := 2) rfl (hb hby d5_25) (by decide) (by decide) k) ?_
  refine go (T' := T4) (f' := (mkF m 3 #[.val (.ref a0), .val (.int (1 : Int32))] [(.int (1 : Int32))])) (by intro t k; exact XS.iloadN X4.here hx rfl (hb hby d5_2) rfl k) ?_
  refine go (T' := T4) (f' := (mkF m 4 #[.val (.ref a0), .val (.int (1 : Int32))] [(.ref a0), (.int (1 : Int32))])) (by intro t k; exact XS.aloadN X4.here hx rfl (hb hby d5_3) rfl rfl k) ?_
  obtain ⟨T5, X5, e5, st5⟩ := getF X4 hx hZ hown (host := "") (Or.inl (tw hw 30 rfl)) Via.refl e4 F4_a0_size (g := (mkF m 4 #[.val (.ref a0), .val (.int (1 : Int32))] [(.ref a0), (.int (1 : Int32))])) rfl rfl (hb hby d5_4)
  refine go st5 ?_
  show Run _ _ _ _ _ _ _ T5 (mkF m 7 #[.val (.ref a0), .val (.int (1 : Int32))] [(.int (1 : Int32)), (.int (1 : Int32))])
  refine go (T' := T5) (f' := (mkF m 28 #[.val (.ref a0), .val (.int (1 : Int32))] [])) (by intro t k; exact XS.icmpYes X5.here hx rfl (pc0 := 7) (pc' := 28) rfl (hb hby d5_7) rfl (flt (by decide : ¬ ((1 : Int32) < (1 : Int32)))).2.1 (by decide) (by decide) k) ?_
  refine go (T' := T5) (f' := (mkF m 29 #[.val (.ref a0), .val (.int (1 : Int32))] [(.ref a0)])) (by intro t k; exact XS.aloadN X5.here hx rfl (hb hby d5_28) rfl rfl k) ?_
  obtain ⟨T6, X6, e6, st6⟩ := getF X5 hx hZ hown (host := "") (Or.inl (tw hw 10 rfl)) Via.refl e5 F4_a0_heap (g := (mkF m 29 #[.val (.ref a0), .val (.int (1 : Int32))] [(.ref a0)])) rfl rfl (hb hby d5_29)
  refine go st6 ?_
  show Run _ _ _ _ _ _ _ T6 (mkF m 32 #[.val (.ref a0), .val (.int (1 : Int32))] [(.ref bh)])
  refine go (T' := T6) (f' := (mkF m 33 #[.val (.ref a0), .val (.int (1 : Int32))] [(.int (2 : Int32))])) (by intro t k; exact alen X6 hx hZ e6 A4_bh (z := (2 : Int32)) rfl (g := (mkF m 32 #[.val (.ref a0), .val (.int (1 : Int32))] [(.ref bh)])) rfl rfl (hb hby d5_32) _ k) ?_
  refine go (T' := T6) (f' := (mkF m 34 #[.val (.ref a0), .val (.int (1 : Int32))] [(.ref a0), (.int (2 : Int32))])) (by intro t k; exact XS.aloadN X6.here hx rfl (hb hby d5_33) rfl rfl k) ?_
  obtain ⟨T7, X7, e7, st7⟩ := getF X6 hx hZ hown (host := "") (Or.inl (tw hw 32 rfl)) Via.refl e6 F4_a0_taken (g := (mkF m 34 #[.val (.ref a0), .val (.int (1 : Int32))] [(.ref a0), (.int (2 : Int32))])) rfl rfl (hb hby d5_34)
  refine go st7 ?_
  show Run _ _ _ _ _ _ _ T7 (mkF m 37 #[.val (.ref a0), .val (.int (1 : Int32))] [(.int (0 : Int32)), (.int (2 : Int32))])
  refine go (T' := T7) (f' := (mkF m 38 #[.val (.ref a0), .val (.int (1 : Int32))] [(.int (2 : Int32))])) (by intro t k; exact XS.isub X7.here hx rfl (hb hby d5_37) rfl k) ?_
  refine go (T' := T7) (f' := (mkF m 39 #[.val (.ref a0), .val (.int (2 : Int32))] [])) (by intro t k; exact XS.istoreN X7.here hx rfl (hb hby d5_38) rfl (l' := #[.val (.ref a0), .val (.int (2 : Int32))]) rfl k) ?_
  refine go (T' := T7) (f' := (mkF m 40 #[.val (.ref a0), .val (.int (2 : Int32))] [(.int (2 : Int32))])) (by intro t k; exact XS.iloadN X7.here hx rfl (hb hby d5_39) rfl k) ?_
  refine go (T' := T7) (f' := (mkF m 41 #[.val (.ref a0), .val (.int (2 : Int32))] [(.ref a0), (.int (2 : Int32))])) (by intro t k; exact XS.aloadN X7.here hx rfl (hb hby d5_40) rfl rfl k) ?_
  obtain ⟨T8, X8, e8, st8⟩ := getF X7 hx hZ hown (host := "") (Or.inl (tw hw 10 rfl)) Via.refl e7 F4_a0_heap (g := (mkF m 41 #[.val (.ref a0), .val (.int (2 : Int32))] [(.ref a0), (.int (2 : Int32))])) rfl rfl (hb hby d5_41)
  refine go st8 ?_
  show Run _ _ _ _ _ _ _ T8 (mkF m 44 #[.val (.ref a0), .val (.int (2 : Int32))] [(.ref bh), (.int (2 : Int32))])
  refine go (T' := T8) (f' := (mkF m 45 #[.val (.ref a0), .val (.int (2 : Int32))] [(.int (2 : Int32)), (.int (2 : Int32))])) (by intro t k; exact alen X8 hx hZ e8 A4_bh (z := (2 : Int32)) rfl (g := (mkF m 44 #[.val (.ref a0), .val (.int (2 : Int32))] [(.ref bh), (.int (2 : Int32))])) rfl rfl (hb hby d5_44) _ k) ?_
  refine go (T' := T8) (f' := (mkF m 66 #[.val (.ref a0), .val (.int (2 : Int32))] [])) (by intro t k; exact XS.icmpYes X8.here hx rfl (pc0 := 45) (pc' := 66) rfl (hb hby d5_45) rfl (flt (by decide : ¬ ((2 : Int32) < (2 : Int32)))).2.1 (by decide) (by decide) k) ?_
  refine go (T' := T8) (f' := (mkF m 67 #[.val (.ref a0), .val (.int (2 : Int32))] [(.ref a0)])) (by intro t k; exact XS.aloadN X8.here hx rfl (hb hby d5_66) rfl rfl k) ?_
  refine go (T' := T8) (f' := (mkF m 68 #[.val (.ref a0), .val (.int (2 : Int32))] [(.int (0 : Int32)), (.ref a0)])) (by intro t k; exact XS.iconst X8.here hx rfl (hb hby d5_67) k) ?_
  obtain ⟨T9, h9, X9, e9, W9, st9⟩ := putF X8 hx hZ hown (host := "") (Or.inl (tw hw 30 rfl)) Via.refl e8 F4_a0_size E4_a0 (Or.inl (tw hw 31 rfl)) (tw hw 1 rfl) (ty := .int) (by decide) rfl rfl (g := (mkF m 68 #[.val (.ref a0), .val (.int (2 : Int32))] [(.int (0 : Int32)), (.ref a0)])) rfl rfl (hb hby d5_68)
  have K9 : Keep h4 h9 [a0] := Keep.of_wr W9
  have F9_a0_heap := Fld.other W9 F4_a0_heap (Or.inr (slot_ne (Or.inr (tw hw 11 rfl)) (Or.inl (tw hw 31 rfl)) (by decide) (t := (.array .int)) (t' := .int) (by decide) (by decide)))
  have F9_a0_priorities := Fld.other W9 F4_a0_priorities (Or.inr (slot_ne (Or.inr (tw hw 14 rfl)) (Or.inl (tw hw 31 rfl)) (by decide) (t := (.array .double)) (t' := .int) (by decide) (by decide)))
  have F9_a0_places := Fld.other W9 F4_a0_places (Or.inr (slot_ne (Or.inr (tw hw 16 rfl)) (Or.inl (tw hw 31 rfl)) (by decide) (t := (.array .int)) (t' := .int) (by decide) (by decide)))
  have F9_a0_size : Fld Z h9 a0 "com/example/wayshard/wayshard/service/VertexQueue" "size" "I" (.int (0 : Int32)) := F4_a0_size.same W9
  have F9_a0_taken := Fld.other W9 F4_a0_taken (Or.inr (slot_ne (Or.inl (tw hw 33 rfl)) (Or.inl (tw hw 31 rfl)) (by decide) (t := .int) (t' := .int) (by decide) (by decide)))
  have N9 := Fr.snoc X9 N4 g0
  have E9_a0 := Exa.keep E4_a0 K9
  have A9_bh := Ary.keep A4_bh K9 (ninS (Ne.symm n0h) nin0)
  have A9_bd := Ary.keep A4_bd K9 (ninS (Ne.symm n0d) nin0)
  have A9_bp := Ary.keep V4 K9 (ninS (Ne.symm n0p) nin0)
  have Z9 : n0 ≤ h9.size := Nat.le_trans Z4 K9.1
  have KK9 : Keep h0 h9 [a0, bh, bd, bp] := KK4.trans K9 (allS (Or.inl (List.mem_of_getElem? (i := 0) rfl)) all0)
  refine go st9 ?_
  show Run _ _ _ _ _ _ _ T9 (mkF m 71 #[.val (.ref a0), .val (.int (2 : Int32))] [])
  refine go (T' := T9) (f' := (mkF m 72 #[.val (.ref a0), .val (.int (2 : Int32))] [(.ref a0)])) (by intro t k; exact XS.aloadN X9.here hx rfl (hb hby d5_71) rfl rfl k) ?_
  refine go (T' := T9) (f' := (mkF m 73 #[.val (.ref a0), .val (.int (2 : Int32))] [(.int (0 : Int32)), (.ref a0)])) (by intro t k; exact XS.iconst X9.here hx rfl (hb hby d5_72) k) ?_
  obtain ⟨T10, h10, X10, e10, W10, st10⟩ := putF X9 hx hZ hown (host := "") (Or.inl (tw hw 32 rfl)) Via.refl e9 F9_a0_taken E9_a0 (Or.inl (tw hw 33 rfl)) (tw hw 1 rfl) (ty := .int) (by decide) rfl rfl (g := (mkF m 73 #[.val (.ref a0), .val (.int (2 : Int32))] [(.int (0 : Int32)), (.ref a0)])) rfl rfl (hb hby d5_73)
  have K10 : Keep h9 h10 [a0] := Keep.of_wr W10
  have F10_a0_heap := Fld.other W10 F9_a0_heap (Or.inr (slot_ne (Or.inr (tw hw 11 rfl)) (Or.inl (tw hw 33 rfl)) (by decide) (t := (.array .int)) (t' := .int) (by decide) (by decide)))
  have F10_a0_priorities := Fld.other W10 F9_a0_priorities (Or.inr (slot_ne (Or.inr (tw hw 14 rfl)) (Or.inl (tw hw 33 rfl)) (by decide) (t := (.array .double)) (t' := .int) (by decide) (by decide)))
  have F10_a0_places := Fld.other W10 F9_a0_places (Or.inr (slot_ne (Or.inr (tw hw 16 rfl)) (Or.inl (tw hw 33 rfl)) (by decide) (t := (.array .int)) (t' := .int) (by decide) (by decide)))
  have F10_a0_size := Fld.other W10 F9_a0_size (Or.inr (slot_ne (Or.inl (tw hw 31 rfl)) (Or.inl (tw hw 33 rfl)) (by decide) (t := .int) (t' := .int) (by decide) (by decide)))
  have F10_a0_taken : Fld Z h10 a0 "com/example/wayshard/wayshard/service/VertexQueue" "taken" "I" (.int (0 : Int32)) := F9_a0_taken.same W10
  have N10 := Fr.snoc X10 N9 g0
  have E10_a0 := Exa.keep E9_a0 K10
  have A10_bh := Ary.keep A9_bh K10 (ninS (Ne.symm n0h) nin0)
  have A10_bd := Ary.keep A9_bd K10 (ninS (Ne.symm n0d) nin0)
  have A10_bp := Ary.keep A9_bp K10 (ninS (Ne.symm n0p) nin0)
  have Z10 : n0 ≤ h10.size := Nat.le_trans Z9 K10.1
  have KK10 : Keep h0 h10 [a0, bh, bd, bp] := KK9.trans K10 (allS (Or.inl (List.mem_of_getElem? (i := 0) rfl)) all0)
  refine go st10 ?_
  show Run _ _ _ _ _ _ _ T10 (mkF m 76 #[.val (.ref a0), .val (.int (2 : Int32))] [])
  refine retV X10 hx Bd.returns (hb hby d5_76) hlk (by decide) (by decide) ?_
  show Q5t25 Z a0 bh bd bp x0 x1 h0 n0 _ T10.heap _
  rw [e10]
  exact ⟨rfl, N10, KK10, ⟨E10_a0, F10_a0_heap, F10_a0_priorities, F10_a0_places, F10_a0_size, F10_a0_taken, A10_bh, A10_bd, A10_bp, g0, gh, gd, gp, n0h, n0d, n0p, nhd, nhp, ndp⟩⟩
theorem ef_11t26 (m : MethodId) (x0 : Addr) : entryFrame m #[(.ref x0)] 2 = mkF m 0 #[.val (.ref x0), .unset] [] := by first | (simp [entryFrame, mkF, argsToLocals, Value.category]; done) | rfl
def Q11t26 (Z : State) (a0 : Addr) (bh bd bp : Addr) (x0 x1 : UInt64) (h0 : Heap) (n0 : Nat) (v : Option Value) (h : Heap) (L : List Loc) : Prop := v = some (.int (0 : Int32)) ∧ Fr n0 L ∧ Keep h0 h [a0, bh, bd, bp] ∧ own_st Z n0 h a0 bh bd bp (0 : Int32) (0 : Int32) (-2 : Int32) (-1 : Int32) (0 : Int32) (1 : Int32) x0 x1
set_option maxRecDepth 65536 in
set_option maxHeartbeats 40000000 in
theorem rm11t26 (l : Launch) (Z : State) (aw : Array Value) (hw : ∀ d ∈ tables_1, d.before aw Z = true) (ws : List Jvm.Cond) (a0 : Addr) (bh bd bp : Addr) (x0 x1 : UInt64) (h0 : Heap) (n0 : Nat) (Z0 : n0 ≤ h0.size) (St : own_st Z n0 h0 a0 bh bd bp (0 : Int32) (0 : Int32) (0 : Int32) (-1 : Int32) (1 : Int32) (0 : Int32) x0 x1) :
    MetFree l mpoll (head1 (Jvm.Cond.code mpoll prog_64_method_6_code 2 (some .int) :: ws) rO0) (fun a U => a = #[(.ref a0)] ∧ Z.Warmed39 U.vm ∧ U.heap = h0) (fun _ _ _ _ _ => True) (fun _ U o U' => ∃ v L, o = .returned v ∧ Q11t26 Z a0 bh bd bp x0 x1 h0 n0 v U'.heap L ∧ FrameEnd U o U' L rO0.cells rO0.slots) := by
  refine MetFree.of_bodySF (plainFor_of_name pn_1) hisR ?_
  intro p e s m args below meth c s₁ Bd hml0 hP hK
  obtain ⟨rfl, hZ, hh⟩ := hP
  have hx := Bd.exec
  have hby := Bd.bytes
  have hml : c.maxLocals = 2 := hml0
  have hown : s.vm.findClass "com/example/wayshard/wayshard/service/VertexQueue" = some m.cls := findClass_of_methodNamed Bd.named
  have hnm := (name_of_methodNamed Bd.named Bd.method).1
  have hlk : meth.locks = false := BodyLoose.notSynchronized Bd
  have X0 : Stand p l e rO0 s m #[(.ref a0)] below meth c s₁ [] 0 0 := Stand.of_body Bd
  have e0 : s₁.heap = h0 := by rw [← hh, Bd.state]; rfl
  have N0 := Fr.nil n0
  show Run p e s below (Q11t26 Z a0 bh bd bp x0 x1 h0 n0) rO0.cells rO0.slots s₁ (entryFrame m #[(.ref a0)] 2)
  rw [ef_11t26]
  obtain ⟨E, Fh, Fd, Fp, Fs, Ft, Ah, Ad, Ap, g0, gh, gd, gp, n0h, n0d, n0p, nhd, nhp, ndp⟩ := St
  show Run _ _ _ _ _ _ _ s₁ (mkF m 0 #[.val (.ref a0), .unset] [])
  refine go (T' := s₁) (f' := (mkF m 1 #[.val (.ref a0), .unset] [(.ref a0)])) (by intro t k; exact XS.aloadN X0.here hx rfl (hb hby d11_0) rfl rfl k) ?_
  obtain ⟨T1, X1, e1, st1⟩ := getF X0 hx hZ hown (host := "") (Or.inl (tw hw 30 rfl)) Via.refl e0 Fs (g := (mkF m 1 #[.val (.ref a0), .unset] [(.ref a0)])) rfl rfl (hb hby d11_1)
  refine go st1 ?_
  show Run _ _ _ _ _ _ _ T1 (mkF m 4 #[.val (.ref a0), .unset] [(.int (1 : Int32))])
  refine go (T' := T1) (f' := (mkF m 15 #[.val (.ref a0), .unset] [])) (by intro t k; exact XS.ifYes X1.here hx rfl (pc0 := 4) (pc' := 15) rfl (hb hby d11_4) rfl ((if0 _ _).trans (feq (by decide : ¬ ((1 : Int32) = (0 : Int32)))).2) (by decide) (by decide) k) ?_
  refine go (T' := T1) (f' := (mkF m 16 #[.val (.ref a0), .unset] [(.ref a0)])) (by intro t k; exact XS.aloadN X1.here hx rfl (hb hby d11_15) rfl rfl k) ?_
  obtain ⟨T2, X2, e2, st2⟩ := getF X1 hx hZ hown (host := "") (Or.inl (tw hw 10 rfl)) Via.refl e1 Fh (g := (mkF m 16 #[.val (.ref a0), .unset] [(.ref a0)])) rfl rfl (hb hby d11_16)
  refine go st2 ?_
  show Run _ _ _ _ _ _ _ T2 (mkF m 19 #[.val (.ref a0), .unset] [(.ref bh)])
  refine go (T' := T2) (f' := (mkF m 20 #[.val (.ref a0), .unset] [(.int (0 : Int32)), (.ref bh)])) (by intro t k; exact XS.iconst X2.here hx rfl (hb hby d11_19) k) ?_
  refine go (T' := T2) (f' := (mkF m 21 #[.val (.ref a0), .unset] [(.int (0 : Int32))])) (by intro t k; exact ldI X2 hx hZ e2 Ah (j := (0 : Int32)) (v := (.int (0 : Int32))) (by decide) rfl (g := (mkF m 20 #[.val (.ref a0), .unset] [(.int (0 : Int32)), (.ref bh)])) rfl rfl (hb hby d11_20) _ k) ?_
  refine go (T' := T2) (f' := (mkF m 22 #[.val (.ref a0), .val (.int (0 : Int32))] [])) (by intro t k; exact XS.istoreN X2.here hx rfl (hb hby d11_21) rfl (l' := #[.val (.ref a0), .val (.int (0 : Int32))]) rfl k) ?_
  refine go (T' := T2) (f' := (mkF m 23 #[.val (.ref a0), .val (.int (0 : Int32))] [(.ref a0)])) (by intro t k; exact XS.aloadN X2.here hx rfl (hb hby d11_22) rfl rfl k) ?_
  refine go (T' := T2) (f' := (mkF m 24 #[.val (.ref a0), .val (.int (0 : Int32))] [(.ref a0), (.ref a0)])) (by intro t k; exact XS.dup X2.here hx rfl (hb hby d11_23) rfl rfl k) ?_
  obtain ⟨T3, X3, e3, st3⟩ := getF X2 hx hZ hown (host := "") (Or.inl (tw hw 30 rfl)) Via.refl e2 Fs (g := (mkF m 24 #[.val (.ref a0), .val (.int (0 : Int32))] [(.ref a0), (.ref a0)])) rfl rfl (hb hby d11_24)
  refine go st3 ?_
  show Run _ _ _ _ _ _ _ T3 (mkF m 27 #[.val (.ref a0), .val (.int (0 : Int32))] [(.int (1 : Int32)), (.ref a0)])
  refine go (T' := T3) (f' := (mkF m 28 #[.val (.ref a0), .val (.int (0 : Int32))] [(.int (1 : Int32)), (.int (1 : Int32)), (.ref a0)])) (by intro t k; exact XS.iconst X3.here hx rfl (hb hby d11_27) k) ?_
  refine go (T' := T3) (f' := (mkF m 29 #[.val (.ref a0), .val (.int (0 : Int32))] [(.int (0 : Int32)), (.ref a0)])) (by intro t k; exact XS.isub X3.here hx rfl (hb hby d11_28) rfl k) ?_
  obtain ⟨T4, h4, X4, e4, W4, st4⟩ := putF X3 hx hZ hown (host := "") (Or.inl (tw hw 30 rfl)) Via.refl e3 Fs E (Or.inl (tw hw 31 rfl)) (tw hw 1 rfl) (ty := .int) (by decide) rfl rfl (g := (mkF m 29 #[.val (.ref a0), .val (.int (0 : Int32))] [(.int (0 : Int32)), (.ref a0)])) rfl rfl (hb hby d11_29)
  have K4 : Keep h0 h4 [a0] := Keep.of_wr W4
  have F4_a0_heap := Fld.other W4 Fh (Or.inr (slot_ne (Or.inr (tw hw 11 rfl)) (Or.inl (tw hw 31 rfl)) (by decide) (t := (.array .int)) (t' := .int) (by decide) (by decide)))
  have F4_a0_priorities := Fld.other W4 Fd (Or.inr (slot_ne (Or.inr (tw hw 14 rfl)) (Or.inl (tw hw 31 rfl)) (by decide) (t := (.array .double)) (t' := .int) (by decide) (by decide)))
  have F4_a0_places := Fld.other W4 Fp (Or.inr (slot_ne (Or.inr (tw hw 16 rfl)) (Or.inl (tw hw 31 rfl)) (by decide) (t := (.array .int)) (t' := .int) (by decide) (by decide)))
  have F4_a0_size : Fld Z h4 a0 "com/example/wayshard/wayshard/service/VertexQueue" "size" "I" (.int (0 : Int32)) := Fs.same W4
  have F4_a0_taken := Fld.other W4 Ft (Or.inr (slot_ne (Or.inl (tw hw 33 rfl)) (Or.inl (tw hw 31 rfl)) (by decide) (t := .int) (t' := .int) (by decide) (by decide)))
  have N4 := Fr.snoc X4 N0 g0
  have E4_a0 := Exa.keep E K4
  have A4_bh := Ary.keep Ah K4 (ninS (Ne.symm n0h) nin0)
  have A4_bd := Ary.keep Ad K4 (ninS (Ne.symm n0d) nin0)
  have A4_bp := Ary.keep Ap K4 (ninS (Ne.symm n0p) nin0)
  have Z4 : n0 ≤ h4.size := Nat.le_trans Z0 K4.1
  have KK4 : Keep h0 h4 [a0, bh, bd, bp] := (Keep.refl _ _).trans K4 (allS (Or.inl (List.mem_of_getElem? (i := 0) rfl)) all0)
  refine go st4 ?_
  show Run _ _ _ _ _ _ _ T4 (mkF m 32 #[.val (.ref a0), .val (.int (0 : Int32))] [])
  refine go (T' := T4) (f' := (mkF m 33 #[.val (.ref a0), .val (.int (0 : Int32))] [(.ref a0)])) (by intro t k; exact XS.aloadN X4.here hx rfl (hb hby d11_32) rfl rfl k) ?_
  obtain ⟨T5, X5, e5, st5⟩ := getF X4 hx hZ hown (host := "") (Or.inl (tw hw 30 rfl)) Via.refl e4 F4_a0_size (g := (mkF m 33 #[.val (.ref a0), .val (.int (0 : Int32))] [(.ref a0)])) rfl rfl (hb hby d11_33)
  refine go st5 ?_
  show Run _ _ _ _ _ _ _ T5 (mkF m 36 #[.val (.ref a0), .val (.int (0 : Int32))] [(.int (0 : Int32))])
  refine go (T' := T5) (f' := (mkF m 71 #[.val (.ref a0), .val (.int (0 : Int32))] [])) (by intro t k; exact XS.ifYes X5.here hx rfl (pc0 := 36) (pc' := 71) rfl (hb hby d11_36) rfl ((if0 _ _).trans (flt (by decide : ¬ ((0 : Int32) < (0 : Int32)))).2.2.2) (by decide) (by decide) k) ?_
  refine go (T' := T5) (f' := (mkF m 72 #[.val (.ref a0), .val (.int (0 : Int32))] [(.ref a0)])) (by intro t k; exact XS.aloadN X5.here hx rfl (hb hby d11_71) rfl rfl k) ?_
  refine go (T' := T5) (f' := (mkF m 73 #[.val (.ref a0), .val (.int (0 : Int32))] [(.ref a0), (.ref a0)])) (by intro t k; exact XS.dup X5.here hx rfl (hb hby d11_72) rfl rfl k) ?_
  obtain ⟨T6, X6, e6, st6⟩ := getF X5 hx hZ hown (host := "") (Or.inl (tw hw 32 rfl)) Via.refl e5 F4_a0_taken (g := (mkF m 73 #[.val (.ref a0), .val (.int (0 : Int32))] [(.ref a0), (.ref a0)])) rfl rfl (hb hby d11_73)
  refine go st6 ?_
  show Run _ _ _ _ _ _ _ T6 (mkF m 76 #[.val (.ref a0), .val (.int (0 : Int32))] [(.int (0 : Int32)), (.ref a0)])
  refine go (T' := T6) (f' := (mkF m 77 #[.val (.ref a0), .val (.int (0 : Int32))] [(.int (1 : Int32)), (.int (0 : Int32)), (.ref a0)])) (by intro t k; exact XS.iconst X6.here hx rfl (hb hby d11_76) k) ?_
  refine go (T' := T6) (f' := (mkF m 78 #[.val (.ref a0), .val (.int (0 : Int32))] [(.int (1 : Int32)), (.ref a0)])) (by intro t k; exact XS.iadd X6.here hx rfl (hb hby d11_77) rfl k) ?_
  obtain ⟨T7, h7, X7, e7, W7, st7⟩ := putF X6 hx hZ hown (host := "") (Or.inl (tw hw 32 rfl)) Via.refl e6 F4_a0_taken E4_a0 (Or.inl (tw hw 33 rfl)) (tw hw 1 rfl) (ty := .int) (by decide) rfl rfl (g := (mkF m 78 #[.val (.ref a0), .val (.int (0 : Int32))] [(.int (1 : Int32)), (.ref a0)])) rfl rfl (hb hby d11_78)
  have K7 : Keep h4 h7 [a0] := Keep.of_wr W7
  have F7_a0_heap := Fld.other W7 F4_a0_heap (Or.inr (slot_ne (Or.inr (tw hw 11 rfl)) (Or.inl (tw hw 33 rfl)) (by decide) (t := (.array .int)) (t' := .int) (by decide) (by decide)))
  have F7_a0_priorities := Fld.other W7 F4_a0_priorities (Or.inr (slot_ne (Or.inr (tw hw 14 rfl)) (Or.inl (tw hw 33 rfl)) (by decide) (t := (.array .double)) (t' := .int) (by decide) (by decide)))
  have F7_a0_places := Fld.other W7 F4_a0_places (Or.inr (slot_ne (Or.inr (tw hw 16 rfl)) (Or.inl (tw hw 33 rfl)) (by decide) (t := (.array .int)) (t' := .int) (by decide) (by decide)))
  have F7_a0_size := Fld.other W7 F4_a0_size (Or.inr (slot_ne (Or.inl (tw hw 31 rfl)) (Or.inl (tw hw 33 rfl)) (by decide) (t := .int) (t' := .int) (by decide) (by decide)))
  have F7_a0_taken : Fld Z h7 a0 "com/example/wayshard/wayshard/service/VertexQueue" "taken" "I" (.int (1 : Int32)) := F4_a0_taken.same W7
  have N7 := Fr.snoc X7 N4 g0
  have E7_a0 := Exa.keep E4_a0 K7
  have A7_bh := Ary.keep A4_bh K7 (ninS (Ne.symm n0h) nin0)
  have A7_bd := Ary.keep A4_bd K7 (ninS (Ne.symm n0d) nin0)
  have A7_bp := Ary.keep A4_bp K7 (ninS (Ne.symm n0p) nin0)
  have Z7 : n0 ≤ h7.size := Nat.le_trans Z4 K7.1
  have KK7 : Keep h0 h7 [a0, bh, bd, bp] := KK4.trans K7 (allS (Or.inl (List.mem_of_getElem? (i := 0) rfl)) all0)
  refine go st7 ?_
  show Run _ _ _ _ _ _ _ T7 (mkF m 81 #[.val (.ref a0), .val (.int (0 : Int32))] [])
  refine go (T' := T7) (f' := (mkF m 82 #[.val (.ref a0), .val (.int (0 : Int32))] [(.ref a0)])) (by intro t k; exact XS.aloadN X7.here hx rfl (hb hby d11_81) rfl rfl k) ?_
  obtain ⟨T8, X8, e8, st8⟩ := getF X7 hx hZ hown (host := "") (Or.inl (tw hw 10 rfl)) Via.refl e7 F7_a0_heap (g := (mkF m 82 #[.val (.ref a0), .val (.int (0 : Int32))] [(.ref a0)])) rfl rfl (hb hby d11_82)
  refine go st8 ?_
  show Run _ _ _ _ _ _ _ T8 (mkF m 85 #[.val (.ref a0), .val (.int (0 : Int32))] [(.ref bh)])
  refine go (T' := T8) (f' := (mkF m 86 #[.val (.ref a0), .val (.int (0 : Int32))] [(.ref a0), (.ref bh)])) (by intro t k; exact XS.aloadN X8.here hx rfl (hb hby d11_85) rfl rfl k) ?_
  obtain ⟨T9, X9, e9, st9⟩ := getF X8 hx hZ hown (host := "") (Or.inl (tw hw 10 rfl)) Via.refl e8 F7_a0_heap (g := (mkF m 86 #[.val (.ref a0), .val (.int (0 : Int32))] [(.ref a0), (.ref bh)])) rfl rfl (hb hby d11_86)
  refine go st9 ?_
  show Run _ _ _ _ _ _ _ T9 (mkF m 89 #[.val (.ref a0), .val (.int (0 : Int32))] [(.ref bh), (.ref bh)])
  refine go (T' := T9) (f' := (mkF m 90 #[.val (.ref a0), .val (.int (0 : Int32))] [(.int (2 : Int32)), (.ref bh)])) (by intro t k; exact alen X9 hx hZ e9 A7_bh (z := (2 : Int32)) rfl (g := (mkF m 89 #[.val (.ref a0), .val (.int (0 : Int32))] [(.ref bh), (.ref bh)])) rfl rfl (hb hby d11_89) _ k) ?_
  refine go (T' := T9) (f' := (mkF m 91 #[.val (.ref a0), .val (.int (0 : Int32))] [(.ref a0), (.int (2 : Int32)), (.ref bh)])) (by intro t k; exact XS.aloadN X9.here hx rfl (hb hby d11_90) rfl rfl k) ?_
  obtain ⟨T10, X10, e10, st10⟩ := getF X9 hx hZ hown (host := "") (Or.inl (tw hw 32 rfl)) Via.refl e9 F7_a0_taken (g := (mkF m 91 #[.val (.ref a0), .val (.int (0 : Int32))] [(.ref a0), (.int (2 : Int32)), (.ref bh)])) rfl rfl (hb hby d11_91)
  refine go st10 ?_
  show Run _ _ _ _ _ _ _ T10 (mkF m 94 #[.val (.ref a0), .val (.int (0 : Int32))] [(.int (1 : Int32)), (.int (2 : Int32)), (.ref bh)])
  refine go (T' := T10) (f' := (mkF m 95 #[.val (.ref a0), .val (.int (0 : Int32))] [(.int (1 : Int32)), (.ref bh)])) (by intro t k; exact XS.isub X10.here hx rfl (hb hby d11_94) rfl k) ?_
  refine go (T' := T10) (f' := (mkF m 96 #[.val (.ref a0), .val (.int (0 : Int32))] [(.int (0 : Int32)), (.int (1 : Int32)), (.ref bh)])) (by intro t k; exact XS.iloadN X10.here hx rfl (hb hby d11_95) rfl k) ?_
  obtain ⟨cl11, Ar11, hin11⟩ := Ary.st (j := (1 : Int32)) A7_bh (by decide) (by show (1 : Int32).toNatClampNeg < 2; decide)
  obtain ⟨T11, h11, X11, e11, W11, st11⟩ := stI X10 hx hZ e10 Ar11 (j := (1 : Int32)) hin11 (g := (mkF m 96 #[.val (.ref a0), .val (.int (0 : Int32))] [(.int (0 : Int32)), (.int (1 : Int32)), (.ref bh)])) rfl rfl (hb hby d11_96)
  have K11 : Keep h7 h11 [bh] := Keep.of_wr W11
  have V11 : Ary Z h11 bh .int [(.int (0 : Int32)), (.int (0 : Int32))] := Ary.set A7_bh W11 rfl
  have N11 := Fr.snoc X11 N7 gh
  have E11_a0 := Exa.keep E7_a0 K11
  have F11_a0_heap := Fld.keep F7_a0_heap K11 (ninS n0h nin0)
  have F11_a0_priorities := Fld.keep F7_a0_priorities K11 (ninS n0h nin0)
  have F11_a0_places := Fld.keep F7_a0_places K11 (ninS n0h nin0)
  have F11_a0_size := Fld.keep F7_a0_size K11 (ninS n0h nin0)
  have F11_a0_taken := Fld.keep F7_a0_taken K11 (ninS n0h nin0)
  have A11_bd := Ary.keep A7_bd K11 (ninS (Ne.symm nhd) nin0)
  have A11_bp := Ary.keep A7_bp K11 (ninS (Ne.symm nhp) nin0)
  have Z11 : n0 ≤ h11.size := Nat.le_trans Z7 K11.1
  have KK11 : Keep h0 h11 [a0, bh, bd, bp] := KK7.trans K11 (allS (Or.inl (List.mem_of_getElem? (i := 1) rfl)) all0)
  refine go st11 ?_
  show Run _ _ _ _ _ _ _ T11 (mkF m 97 #[.val (.ref a0), .val (.int (0 : Int32))] [])
  refine go (T' := T11) (f' := (mkF m 98 #[.val (.ref a0), .val (.int (0 : Int32))] [(.ref a0)])) (by intro t k; exact XS.aloadN X11.here hx rfl (hb hby d11_97) rfl rfl k) ?_
  obtain ⟨T12, X12, e12, st12⟩ := getF X11 hx hZ hown (host := "") (Or.inl (tw hw 15 rfl)) Via.refl e11 F11_a0_places (g := (mkF m 98 #[.val (.ref a0), .val (.int (0 : Int32))] [(.ref a0)])) rfl rfl (hb hby d11_98)
  refine go st12 ?_
  show Run _ _ _ _ _ _ _ T12 (mkF m 101 #[.val (.ref a0), .val (.int (0 : Int32))] [(.ref bp)])
  refine go (T' := T12) (f' := (mkF m 102 #[.val (.ref a0), .val (.int (0 : Int32))] [(.int (0 : Int32)), (.ref bp)])) (by intro t k; exact XS.iloadN X12.here hx rfl (hb hby d11_101) rfl k) ?_
  refine go (T' := T12) (f' := (mkF m 104 #[.val (.ref a0), .val (.int (0 : Int32))] [(.int (-2 : Int32)), (.int (0 : Int32)), (.ref bp)])) (by intro t k; exact XS.bipush X12.here hx rfl (hb hby d11_102) k) ?_
  obtain ⟨cl13, Ar13, hin13⟩ := Ary.st (j := (0 : Int32)) A11_bp (by decide) (by show (0 : Int32).toNatClampNeg < 2; decide)
  obtain ⟨T13, h13, X13, e13, W13, st13⟩ := stI X12 hx hZ e12 Ar13 (j := (0 : Int32)) hin13 (g := (mkF m 104 #[.val (.ref a0), .val (.int (0 : Int32))] [(.int (-2 : Int32)), (.int (0 : Int32)), (.ref bp)])) rfl rfl (hb hby d11_104)
  have K13 : Keep h11 h13 [bp] := Keep.of_wr W13
  have V13 : Ary Z h13 bp .int [(.int (-2 : Int32)), (.int (-1 : Int32))] := Ary.set A11_bp W13 rfl
  have N13 := Fr.snoc X13 N11 gp
  have E13_a0 := Exa.keep E11_a0 K13
  have F13_a0_heap := Fld.keep F11_a0_heap K13 (ninS n0p nin0)
  have F13_a0_priorities := Fld.keep F11_a0_priorities K13 (ninS n0p nin0)
  have F13_a0_places := Fld.keep F11_a0_places K13 (ninS n0p nin0)
  have F13_a0_size := Fld.keep F11_a0_size K13 (ninS n0p nin0)
  have F13_a0_taken := Fld.keep F11_a0_taken K13 (ninS n0p nin0)
  have A13_bh := Ary.keep V11 K13 (ninS nhp nin0)
  have A13_bd := Ary.keep A11_bd K13 (ninS ndp nin0)
  have Z13 : n0 ≤ h13.size := Nat.le_trans Z11 K13.1
  have KK13 : Keep h0 h13 [a0, bh, bd, bp] := KK11.trans K13 (allS (Or.inl (List.mem_of_getElem? (i := 3) rfl)) all0)
  refine go st13 ?_
  show Run _ _ _ _ _ _ _ T13 (mkF m 105 #[.val (.ref a0), .val (.int (0 : Int32))] [])
  refine go (T' := T13) (f' := (mkF m 106 #[.val (.ref a0), .val (.int (0 : Int32))] [(.int (0 : Int32))])) (by intro t k; exact XS.iloadN X13.here hx rfl (hb hby d11_105) rfl k) ?_
  refine retW X13 hx (t := .int) Bd.returns rfl (Or.inl ⟨rfl, Or.inl rfl, _, rfl⟩) (hb hby d11_106) hlk (by decide) (by decide) ?_
  show Q11t26 Z a0 bh bd bp x0 x1 h0 n0 _ T13.heap _
  rw [e13]
  have hv : (some (.int (0 : Int32)) : Option Value) = some (.int (0 : Int32)) := rfl
  exact ⟨hv, N13, KK13, ⟨E13_a0, F13_a0_heap, F13_a0_priorities, F13_a0_places, F13_a0_size, F13_a0_taken, A13_bh, A13_bd, V13, g0, gh, gd, gp, n0h, n0d, n0p, nhd, nhp, ndp⟩⟩
theorem ef_5t27 (m : MethodId) (x0 : Addr) : entryFrame m #[(.ref x0)] 2 = mkF m 0 #[.val (.ref x0), .unset] [] := by first | (simp [entryFrame, mkF, argsToLocals, Value.category]; done) | rfl
def Q5t27 (Z : State) (a0 : Addr) (bh bd bp : Addr) (x0 x1 : UInt64) (h0 : Heap) (n0 : Nat) (v : Option Value) (h : Heap) (L : List Loc) : Prop := v = none ∧ Fr n0 L ∧ Keep h0 h [a0, bh, bd, bp] ∧ own_st Z n0 h a0 bh bd bp (0 : Int32) (0 : Int32) (-1 : Int32) (-1 : Int32) (0 : Int32) (0 : Int32) x0 x1
set_option maxRecDepth 65536 in
set_option maxHeartbeats 40000000 in
theorem rm5t27 (l : Launch) (Z : State) (aw : Array Value) (hw : ∀ d ∈ tables_1, d.before aw Z = true) (ws : List Jvm.Cond) (a0 : Addr) (bh bd bp : Addr) (x0 x1 : UInt64) (h0 : Heap) (n0 : Nat) (Z0 : n0 ≤ h0.size) (St : own_st Z n0 h0 a0 bh bd bp (0 : Int32) (0 : Int32) (-2 : Int32) (-1 : Int32) (0 : Int32) (1 : Int32) x0 x1) :
    MetFree l mclear (head1 (Jvm.Cond.code mclear prog_64_method_3_code 2 none :: ws) rO0) (fun a U => a = #[(.ref a0)] ∧ Z.Warmed39 U.vm ∧ U.heap = h0) (fun _ _ _ _ _ => True) (fun _ U o U' => ∃ v L, o = .returned v ∧ Q5t27 Z a0 bh bd bp x0 x1 h0 n0 v U'.heap L ∧ FrameEnd U o U' L rO0.cells rO0.slots) := by
  refine MetFree.of_bodySF (plainFor_of_name pn_1) hisR ?_
  intro p e s m args below meth c s₁ Bd hml0 hP hK
  obtain ⟨rfl, hZ, hh⟩ := hP
  have hx := Bd.exec
  have hby := Bd.bytes
  have hml : c.maxLocals = 2 := hml0
  have hown : s.vm.findClass "com/example/wayshard/wayshard/service/VertexQueue" = some m.cls := findClass_of_methodNamed Bd.named
  have hnm := (name_of_methodNamed Bd.named Bd.method).1
  have hlk : meth.locks = false := BodyLoose.notSynchronized Bd
  have X0 : Stand p l e rO0 s m #[(.ref a0)] below meth c s₁ [] 0 0 := Stand.of_body Bd
  have e0 : s₁.heap = h0 := by rw [← hh, Bd.state]; rfl
  have N0 := Fr.nil n0
  show Run p e s below (Q5t27 Z a0 bh bd bp x0 x1 h0 n0) rO0.cells rO0.slots s₁ (entryFrame m #[(.ref a0)] 2)
  rw [ef_5t27]
  obtain ⟨E, Fh, Fd, Fp, Fs, Ft, Ah, Ad, Ap, g0, gh, gd, gp, n0h, n0d, n0p, nhd, nhp, ndp⟩ := St
  show Run _ _ _ _ _ _ _ s₁ (mkF m 0 #[.val (.ref a0), .unset] [])
  refine go (T' := s₁) (f' := (mkF m 1 #[.val (.ref a0), .unset] [(.int (0 : Int32))])) (by intro t k; exact XS.iconst X0.here hx rfl (hb hby d5_0) k) ?_
  refine go (T' := s₁) (f' := (mkF m 2 #[.val (.ref a0), .val (.int (0 : Int32))] [])) (by intro t k; exact XS.istoreN X0.here hx rfl (hb hby d5_1) rfl (l' := #[.val (.ref a0), .val (.int (0 : Int32))]) rfl k) ?_
  refine go (T' := s₁) (f' := (mkF m 3 #[.val (.ref a0), .val (.int (0 : Int32))] [(.int (0 : Int32))])) (by intro t k; exact XS.iloadN X0.here hx rfl (hb hby d5_2) rfl k) ?_
  refine go (T' := s₁) (f' := (mkF m 4 #[.val (.ref a0), .val (.int (0 : Int32))] [(.ref a0), (.int (0 : Int32))])) (by intro t k; exact XS.aloadN X0.here hx rfl (hb hby d5_3) rfl rfl k) ?_
  obtain ⟨T1, X1, e1, st1⟩ := getF X0 hx hZ hown (host := "") (Or.inl (tw hw 30 rfl)) Via.refl e0 Fs (g := (mkF m 4 #[.val (.ref a0), .val (.int (0 : Int32))] [(.ref a0), (.int (0 : Int32))])) rfl rfl (hb hby d5_4)
  refine go st1 ?_
  show Run _ _ _ _ _ _ _ T1 (mkF m 7 #[.val (.ref a0), .val (.int (0 : Int32))] [(.int (0 : Int32)), (.int (0 : Int32))])
  refine go (T' := T1) (f' := (mkF m 28 #[.val (.ref a0), .val (.int (0 : Int32))] [])) (by intro t k; exact XS.icmpYes X1.here hx rfl (pc0 := 7) (pc' := 28) rfl (hb hby d5_7) rfl (flt (by decide : ¬ ((0 : Int32) < (0 : Int32)))).2.1 (by decide) (by decide) k) ?_
  refine go (T' := T1) (f' := (mkF m 29 #[.val (.ref a0), .val (.int (0 : Int32))] [(.ref a0)])) (by intro t k; exact XS.aloadN X1.here hx rfl (hb hby d5_28) rfl rfl k) ?_
  obtain ⟨T2, X2, e2, st2⟩ := getF X1 hx hZ hown (host := "") (Or.inl (tw hw 10 rfl)) Via.refl e1 Fh (g := (mkF m 29 #[.val (.ref a0), .val (.int (0 : Int32))] [(.ref a0)])) rfl rfl (hb hby d5_29)
  refine go st2 ?_
  show Run _ _ _ _ _ _ _ T2 (mkF m 32 #[.val (.ref a0), .val (.int (0 : Int32))] [(.ref bh)])
  refine go (T' := T2) (f' := (mkF m 33 #[.val (.ref a0), .val (.int (0 : Int32))] [(.int (2 : Int32))])) (by intro t k; exact alen X2 hx hZ e2 Ah (z := (2 : Int32)) rfl (g := (mkF m 32 #[.val (.ref a0), .val (.int (0 : Int32))] [(.ref bh)])) rfl rfl (hb hby d5_32) _ k) ?_
  refine go (T' := T2) (f' := (mkF m 34 #[.val (.ref a0), .val (.int (0 : Int32))] [(.ref a0), (.int (2 : Int32))])) (by intro t k; exact XS.aloadN X2.here hx rfl (hb hby d5_33) rfl rfl k) ?_
  obtain ⟨T3, X3, e3, st3⟩ := getF X2 hx hZ hown (host := "") (Or.inl (tw hw 32 rfl)) Via.refl e2 Ft (g := (mkF m 34 #[.val (.ref a0), .val (.int (0 : Int32))] [(.ref a0), (.int (2 : Int32))])) rfl rfl (hb hby d5_34)
  refine go st3 ?_
  show Run _ _ _ _ _ _ _ T3 (mkF m 37 #[.val (.ref a0), .val (.int (0 : Int32))] [(.int (1 : Int32)), (.int (2 : Int32))])
  refine go (T' := T3) (f' := (mkF m 38 #[.val (.ref a0), .val (.int (0 : Int32))] [(.int (1 : Int32))])) (by intro t k; exact XS.isub X3.here hx rfl (hb hby d5_37) rfl k) ?_
  refine go (T' := T3) (f' := (mkF m 39 #[.val (.ref a0), .val (.int (1 : Int32))] [])) (by intro t k; exact XS.istoreN X3.here hx rfl (hb hby d5_38) rfl (l' := #[.val (.ref a0), .val (.int (1 : Int32))]) rfl k) ?_
  refine go (T' := T3) (f' := (mkF m 40 #[.val (.ref a0), .val (.int (1 : Int32))] [(.int (1 : Int32))])) (by intro t k; exact XS.iloadN X3.here hx rfl (hb hby d5_39) rfl k) ?_
  refine go (T' := T3) (f' := (mkF m 41 #[.val (.ref a0), .val (.int (1 : Int32))] [(.ref a0), (.int (1 : Int32))])) (by intro t k; exact XS.aloadN X3.here hx rfl (hb hby d5_40) rfl rfl k) ?_
  obtain ⟨T4, X4, e4, st4⟩ := getF X3 hx hZ hown (host := "") (Or.inl (tw hw 10 rfl)) Via.refl e3 Fh (g := (mkF m 41 #[.val (.ref a0), .val (.int (1 : Int32))] [(.ref a0), (.int (1 : Int32))])) rfl rfl (hb hby d5_41)
  refine go st4 ?_
  show Run _ _ _ _ _ _ _ T4 (mkF m 44 #[.val (.ref a0), .val (.int (1 : Int32))] [(.ref bh), (.int (1 : Int32))])
  refine go (T' := T4) (f' := (mkF m 45 #[.val (.ref a0), .val (.int (1 : Int32))] [(.int (2 : Int32)), (.int (1 : Int32))])) (by intro t k; exact alen X4 hx hZ e4 Ah (z := (2 : Int32)) rfl (g := (mkF m 44 #[.val (.ref a0), .val (.int (1 : Int32))] [(.ref bh), (.int (1 : Int32))])) rfl rfl (hb hby d5_44) _ k) ?_
  refine go (T' := T4) (f' := (mkF m 48 #[.val (.ref a0), .val (.int (1 : Int32))] [])) (by intro t k; exact XS.icmpNo X4.here hx rfl (hb hby d5_45) rfl (tlt (by decide : (1 : Int32) < (2 : Int32))).2.1 k) ?_
  refine go (T' := T4) (f' := (mkF m 49 #[.val (.ref a0), .val (.int (1 : Int32))] [(.ref a0)])) (by intro t k; exact XS.aloadN X4.here hx rfl (hb hby d5_48) rfl rfl k) ?_
  obtain ⟨T5, X5, e5, st5⟩ := getF X4 hx hZ hown (host := "") (Or.inl (tw hw 15 rfl)) Via.refl e4 Fp (g := (mkF m 49 #[.val (.ref a0), .val (.int (1 : Int32))] [(.ref a0)])) rfl rfl (hb hby d5_49)
  refine go st5 ?_
  show Run _ _ _ _ _ _ _ T5 (mkF m 52 #[.val (.ref a0), .val (.int (1 : Int32))] [(.ref bp)])
  refine go (T' := T5) (f' := (mkF m 53 #[.val (.ref a0), .val (.int (1 : Int32))] [(.ref a0), (.ref bp)])) (by intro t k; exact XS.aloadN X5.here hx rfl (hb hby d5_52) rfl rfl k) ?_
  obtain ⟨T6, X6, e6, st6⟩ := getF X5 hx hZ hown (host := "") (Or.inl (tw hw 10 rfl)) Via.refl e5 Fh (g := (mkF m 53 #[.val (.ref a0), .val (.int (1 : Int32))] [(.ref a0), (.ref bp)])) rfl rfl (hb hby d5_53)
  refine go st6 ?_
  show Run _ _ _ _ _ _ _ T6 (mkF m 56 #[.val (.ref a0), .val (.int (1 : Int32))] [(.ref bh), (.ref bp)])
  refine go (T' := T6) (f' := (mkF m 57 #[.val (.ref a0), .val (.int (1 : Int32))] [(.int (1 : Int32)), (.ref bh), (.ref bp)])) (by intro t k; exact XS.iloadN X6.here hx rfl (hb hby d5_56) rfl k) ?_
  refine go (T' := T6) (f' := (mkF m 58 #[.val (.ref a0), .val (.int (1 : Int32))] [(.int (0 : Int32)), (.ref bp)])) (by intro t k; exact ldI X6 hx hZ e6 Ah (j := (1 : Int32)) (v := (.int (0 : Int32))) (by decide) rfl (g := (mkF m 57 #[.val (.ref a0), .val (.int (1 : Int32))] [(.int (1 : Int32)), (.ref bh), (.ref bp)])) rfl rfl (hb hby d5_57) _ k) ?_
  refine go (T' := T6) (f' := (mkF m 59 #[.val (.ref a0), .val (.int (1 : Int32))] [(.int (-1 : Int32)), (.int (0 : Int32)), (.ref bp)])) (by intro t k; exact XS.iconst X6.here hx rfl (hb hby d5_58) k) ?_
  obtain ⟨cl7, Ar7, hin7⟩ := Ary.st (j := (0 : Int32)) Ap (by decide) (by show (0 : Int32).toNatClampNeg < 2; decide)
  obtain ⟨T7, h7, X7, e7, W7, st7⟩ := stI X6 hx hZ e6 Ar7 (j := (0 : Int32)) hin7 (g := (mkF m 59 #[.val (.ref a0), .val (.int (1 : Int32))] [(.int (-1 : Int32)), (.int (0 : Int32)), (.ref bp)])) rfl rfl (hb hby d5_59)
  have K7 : Keep h0 h7 [bp] := Keep.of_wr W7
  have V7 : Ary Z h7 bp .int [(.int (-1 : Int32)), (.int (-1 : Int32))] := Ary.set Ap W7 rfl
  have N7 := Fr.snoc X7 N0 gp
  have E7_a0 := Exa.keep E K7
  have F7_a0_heap := Fld.keep Fh K7 (ninS n0p nin0)
  have F7_a0_priorities := Fld.keep Fd K7 (ninS n0p nin0)
  have F7_a0_places := Fld.keep Fp K7 (ninS n0p nin0)
  have F7_a0_size := Fld.keep Fs K7 (ninS n0p nin0)
  have F7_a0_taken := Fld.keep Ft K7 (ninS n0p nin0)
  have A7_bh := Ary.keep Ah K7 (ninS nhp nin0)
  have A7_bd := Ary.keep Ad K7 (ninS ndp nin0)
  have Z7 : n0 ≤ h7.size := Nat.le_trans Z0 K7.1
  have KK7 : Keep h0 h7 [a0, bh, bd, bp] := (Keep.refl _ _).trans K7 (allS (Or.inl (List.mem_of_getElem? (i := 3) rfl)) all0)
  refine go st7 ?_
  show Run _ _ _ _ _ _ _ T7 (mkF m 60 #[.val (.ref a0), .val (.int (1 : Int32))] [])
  refine go (T' := T7) (f' := (mkF m 63 #[.val (.ref a0), .val (.int (2 : Int32))] [])) (by intro t k; exact XS.iinc X7.here hx rfl (hb hby d5_60) rfl (l' := #[.val (.ref a0), .val (.int (2 : Int32))]) rfl k) ?_
  refine go (T' := T7) (f' := (mkF m 39 #[.val (.ref a0), .val (.int (2 : Int32))] [])) (by intro t k; exact XS.goto X7.here hx rfl (pc0 := 63) (pc' := 39) rfl (hb hby d5_63) (by decide) (by decide) k) ?_
  refine go (T' := T7) (f' := (mkF m 40 #[.val (.ref a0), .val (.int (2 : Int32))] [(.int (2 : Int32))])) (by intro t k; exact XS.iloadN X7.here hx rfl (hb hby d5_39) rfl k) ?_
  refine go (T' := T7) (f' := (mkF m 41 #[.val (.ref a0), .val (.int (2 : Int32))] [(.ref a0), (.int (2 : Int32))])) (by intro t k; exact XS.aloadN X7.here hx rfl (hb hby d5_40) rfl rfl k) ?_
  obtain ⟨T8, X8, e8, st8⟩ := getF X7 hx hZ hown (host := "") (Or.inl (tw hw 10 rfl)) Via.refl e7 F7_a0_heap (g := (mkF m 41 #[.val (.ref a0), .val (.int (2 : Int32))] [(.ref a0), (.int (2 : Int32))])) rfl rfl (hb hby d5_41)
  refine go st8 ?_
  show Run _ _ _ _ _ _ _ T8 (mkF m 44 #[.val (.ref a0), .val (.int (2 : Int32))] [(.ref bh), (.int (2 : Int32))])
  refine go (T' := T8) (f' := (mkF m 45 #[.val (.ref a0), .val (.int (2 : Int32))] [(.int (2 : Int32)), (.int (2 : Int32))])) (by intro t k; exact alen X8 hx hZ e8 A7_bh (z := (2 : Int32)) rfl (g := (mkF m 44 #[.val (.ref a0), .val (.int (2 : Int32))] [(.ref bh), (.int (2 : Int32))])) rfl rfl (hb hby d5_44) _ k) ?_
  refine go (T' := T8) (f' := (mkF m 66 #[.val (.ref a0), .val (.int (2 : Int32))] [])) (by intro t k; exact XS.icmpYes X8.here hx rfl (pc0 := 45) (pc' := 66) rfl (hb hby d5_45) rfl (flt (by decide : ¬ ((2 : Int32) < (2 : Int32)))).2.1 (by decide) (by decide) k) ?_
  refine go (T' := T8) (f' := (mkF m 67 #[.val (.ref a0), .val (.int (2 : Int32))] [(.ref a0)])) (by intro t k; exact XS.aloadN X8.here hx rfl (hb hby d5_66) rfl rfl k) ?_
  refine go (T' := T8) (f' := (mkF m 68 #[.val (.ref a0), .val (.int (2 : Int32))] [(.int (0 : Int32)), (.ref a0)])) (by intro t k; exact XS.iconst X8.here hx rfl (hb hby d5_67) k) ?_
  obtain ⟨T9, h9, X9, e9, W9, st9⟩ := putF X8 hx hZ hown (host := "") (Or.inl (tw hw 30 rfl)) Via.refl e8 F7_a0_size E7_a0 (Or.inl (tw hw 31 rfl)) (tw hw 1 rfl) (ty := .int) (by decide) rfl rfl (g := (mkF m 68 #[.val (.ref a0), .val (.int (2 : Int32))] [(.int (0 : Int32)), (.ref a0)])) rfl rfl (hb hby d5_68)
  have K9 : Keep h7 h9 [a0] := Keep.of_wr W9
  have F9_a0_heap := Fld.other W9 F7_a0_heap (Or.inr (slot_ne (Or.inr (tw hw 11 rfl)) (Or.inl (tw hw 31 rfl)) (by decide) (t := (.array .int)) (t' := .int) (by decide) (by decide)))
  have F9_a0_priorities := Fld.other W9 F7_a0_priorities (Or.inr (slot_ne (Or.inr (tw hw 14 rfl)) (Or.inl (tw hw 31 rfl)) (by decide) (t := (.array .double)) (t' := .int) (by decide) (by decide)))
  have F9_a0_places := Fld.other W9 F7_a0_places (Or.inr (slot_ne (Or.inr (tw hw 16 rfl)) (Or.inl (tw hw 31 rfl)) (by decide) (t := (.array .int)) (t' := .int) (by decide) (by decide)))
  have F9_a0_size : Fld Z h9 a0 "com/example/wayshard/wayshard/service/VertexQueue" "size" "I" (.int (0 : Int32)) := F7_a0_size.same W9
  have F9_a0_taken := Fld.other W9 F7_a0_taken (Or.inr (slot_ne (Or.inl (tw hw 33 rfl)) (Or.inl (tw hw 31 rfl)) (by decide) (t := .int) (t' := .int) (by decide) (by decide)))
  have N9 := Fr.snoc X9 N7 g0
  have E9_a0 := Exa.keep E7_a0 K9
  have A9_bh := Ary.keep A7_bh K9 (ninS (Ne.symm n0h) nin0)
  have A9_bd := Ary.keep A7_bd K9 (ninS (Ne.symm n0d) nin0)
  have A9_bp := Ary.keep V7 K9 (ninS (Ne.symm n0p) nin0)
  have Z9 : n0 ≤ h9.size := Nat.le_trans Z7 K9.1
  have KK9 : Keep h0 h9 [a0, bh, bd, bp] := KK7.trans K9 (allS (Or.inl (List.mem_of_getElem? (i := 0) rfl)) all0)
  refine go st9 ?_
  show Run _ _ _ _ _ _ _ T9 (mkF m 71 #[.val (.ref a0), .val (.int (2 : Int32))] [])
  refine go (T' := T9) (f' := (mkF m 72 #[.val (.ref a0), .val (.int (2 : Int32))] [(.ref a0)])) (by intro t k; exact XS.aloadN X9.here hx rfl (hb hby d5_71) rfl rfl k) ?_
  refine go (T' := T9) (f' := (mkF m 73 #[.val (.ref a0), .val (.int (2 : Int32))] [(.int (0 : Int32)), (.ref a0)])) (by intro t k; exact XS.iconst X9.here hx rfl (hb hby d5_72) k) ?_
  obtain ⟨T10, h10, X10, e10, W10, st10⟩ := putF X9 hx hZ hown (host := "") (Or.inl (tw hw 32 rfl)) Via.refl e9 F9_a0_taken E9_a0 (Or.inl (tw hw 33 rfl)) (tw hw 1 rfl) (ty := .int) (by decide) rfl rfl (g := (mkF m 73 #[.val (.ref a0), .val (.int (2 : Int32))] [(.int (0 : Int32)), (.ref a0)])) rfl rfl (hb hby d5_73)
  have K10 : Keep h9 h10 [a0] := Keep.of_wr W10
  have F10_a0_heap := Fld.other W10 F9_a0_heap (Or.inr (slot_ne (Or.inr (tw hw 11 rfl)) (Or.inl (tw hw 33 rfl)) (by decide) (t := (.array .int)) (t' := .int) (by decide) (by decide)))
  have F10_a0_priorities := Fld.other W10 F9_a0_priorities (Or.inr (slot_ne (Or.inr (tw hw 14 rfl)) (Or.inl (tw hw 33 rfl)) (by decide) (t := (.array .double)) (t' := .int) (by decide) (by decide)))
  have F10_a0_places := Fld.other W10 F9_a0_places (Or.inr (slot_ne (Or.inr (tw hw 16 rfl)) (Or.inl (tw hw 33 rfl)) (by decide) (t := (.array .int)) (t' := .int) (by decide) (by decide)))
  have F10_a0_size := Fld.other W10 F9_a0_size (Or.inr (slot_ne (Or.inl (tw hw 31 rfl)) (Or.inl (tw hw 33 rfl)) (by decide) (t := .int) (t' := .int) (by decide) (by decide)))
  have F10_a0_taken : Fld Z h10 a0 "com/example/wayshard/wayshard/service/VertexQueue" "taken" "I" (.int (0 : Int32)) := F9_a0_taken.same W10
  have N10 := Fr.snoc X10 N9 g0
  have E10_a0 := Exa.keep E9_a0 K10
  have A10_bh := Ary.keep A9_bh K10 (ninS (Ne.symm n0h) nin0)
  have A10_bd := Ary.keep A9_bd K10 (ninS (Ne.symm n0d) nin0)
  have A10_bp := Ary.keep A9_bp K10 (ninS (Ne.symm n0p) nin0)
  have Z10 : n0 ≤ h10.size := Nat.le_trans Z9 K10.1
  have KK10 : Keep h0 h10 [a0, bh, bd, bp] := KK9.trans K10 (allS (Or.inl (List.mem_of_getElem? (i := 0) rfl)) all0)
  refine go st10 ?_
  show Run _ _ _ _ _ _ _ T10 (mkF m 76 #[.val (.ref a0), .val (.int (2 : Int32))] [])
  refine retV X10 hx Bd.returns (hb hby d5_76) hlk (by decide) (by decide) ?_
  show Q5t27 Z a0 bh bd bp x0 x1 h0 n0 _ T10.heap _
  rw [e10]
  exact ⟨rfl, N10, KK10, ⟨E10_a0, F10_a0_heap, F10_a0_priorities, F10_a0_places, F10_a0_size, F10_a0_taken, A10_bh, A10_bd, A10_bp, g0, gh, gd, gp, n0h, n0d, n0p, nhd, nhp, ndp⟩⟩
theorem ef_10t30 (m : MethodId) (x0 : Addr) : entryFrame m #[(.ref x0), (.int (0 : Int32)), (.int (1 : Int32))] 3 = mkF m 0 #[.val (.ref x0), .val (.int (0 : Int32)), .val (.int (1 : Int32))] [] := by first | (simp [entryFrame, mkF, argsToLocals, Value.category]; done) | rfl
def Q10t30 (Z : State) (a0 : Addr) (bh bd bp : Addr) (x0 x1 : UInt64) (h0 : Heap) (n0 : Nat) (v : Option Value) (h : Heap) (L : List Loc) : Prop := v = none ∧ Fr n0 L ∧ Keep h0 h [a0, bh, bd, bp] ∧ own_st Z n0 h a0 bh bd bp (0 : Int32) (0 : Int32) (1 : Int32) (1 : Int32) (2 : Int32) (0 : Int32) x0 x1
set_option maxRecDepth 65536 in
set_option maxHeartbeats 40000000 in
theorem rm10t30 (l : Launch) (Z : State) (aw : Array Value) (hw : ∀ d ∈ tables_1, d.before aw Z = true) (ws : List Jvm.Cond) (a0 : Addr) (bh bd bp : Addr) (x0 x1 : UInt64) (h0 : Heap) (n0 : Nat) (Z0 : n0 ≤ h0.size) (St : own_st Z n0 h0 a0 bh bd bp (0 : Int32) (1 : Int32) (0 : Int32) (1 : Int32) (2 : Int32) (0 : Int32) x0 x1) :
    MetFree l mmove (head1 (Jvm.Cond.code mmove prog_64_method_9_code 3 none :: ws) rO0) (fun a U => a = #[(.ref a0), (.int (0 : Int32)), (.int (1 : Int32))] ∧ Z.Warmed39 U.vm ∧ U.heap = h0) (fun _ _ _ _ _ => True) (fun _ U o U' => ∃ v L, o = .returned v ∧ Q10t30 Z a0 bh bd bp x0 x1 h0 n0 v U'.heap L ∧ FrameEnd U o U' L rO0.cells rO0.slots) := by
  refine MetFree.of_bodySF (plainFor_of_name pn_1) hisR ?_
  intro p e s m args below meth c s₁ Bd hml0 hP hK
  obtain ⟨rfl, hZ, hh⟩ := hP
  have hx := Bd.exec
  have hby := Bd.bytes
  have hml : c.maxLocals = 3 := hml0
  have hown : s.vm.findClass "com/example/wayshard/wayshard/service/VertexQueue" = some m.cls := findClass_of_methodNamed Bd.named
  have hnm := (name_of_methodNamed Bd.named Bd.method).1
  have hlk : meth.locks = false := BodyLoose.notSynchronized Bd
  have X0 : Stand p l e rO0 s m #[(.ref a0), (.int (0 : Int32)), (.int (1 : Int32))] below meth c s₁ [] 0 0 := Stand.of_body Bd
  have e0 : s₁.heap = h0 := by rw [← hh, Bd.state]; rfl
  have N0 := Fr.nil n0
  show Run p e s below (Q10t30 Z a0 bh bd bp x0 x1 h0 n0) rO0.cells rO0.slots s₁ (entryFrame m #[(.ref a0), (.int (0 : Int32)), (.int (1 : Int32))] 3)
  rw [ef_10t30]
  obtain ⟨E, Fh, Fd, Fp, Fs, Ft, Ah, Ad, Ap, g0, gh, gd, gp, n0h, n0d, n0p, nhd, nhp, ndp⟩ := St
  show Run _ _ _ _ _ _ _ s₁ (mkF m 0 #[.val (.ref a0), .val (.int (0 : Int32)), .val (.int (1 : Int32))] [])
  refine go (T' := s₁) (f' := (mkF m 1 #[.val (.ref a0), .val (.int (0 : Int32)), .val (.int (1 : Int32))] [(.ref a0)])) (by intro t k; exact XS.aloadN X0.here hx rfl (hb hby d10_0) rfl rfl k) ?_
  obtain ⟨T1, X1, e1, st1⟩ := getF X0 hx hZ hown (host := "") (Or.inl (tw hw 10 rfl)) Via.refl e0 Fh (g := (mkF m 1 #[.val (.ref a0), .val (.int (0 : Int32)), .val (.int (1 : Int32))] [(.ref a0)])) rfl rfl (hb hby d10_1)
  refine go st1 ?_
  show Run _ _ _ _ _ _ _ T1 (mkF m 4 #[.val (.ref a0), .val (.int (0 : Int32)), .val (.int (1 : Int32))] [(.ref bh)])
  refine go (T' := T1) (f' := (mkF m 5 #[.val (.ref a0), .val (.int (0 : Int32)), .val (.int (1 : Int32))] [(.int (1 : Int32)), (.ref bh)])) (by intro t k; exact XS.iloadN X1.here hx rfl (hb hby d10_4) rfl k) ?_
  refine go (T' := T1) (f' := (mkF m 6 #[.val (.ref a0), .val (.int (0 : Int32)), .val (.int (1 : Int32))] [(.int (0 : Int32)), (.int (1 : Int32)), (.ref bh)])) (by intro t k; exact XS.iloadN X1.here hx rfl (hb hby d10_5) rfl k) ?_
  obtain ⟨cl2, Ar2, hin2⟩ := Ary.st (j := (1 : Int32)) Ah (by decide) (by show (1 : Int32).toNatClampNeg < 2; decide)
  obtain ⟨T2, h2, X2, e2, W2, st2⟩ := stI X1 hx hZ e1 Ar2 (j := (1 : Int32)) hin2 (g := (mkF m 6 #[.val (.ref a0), .val (.int (0 : Int32)), .val (.int (1 : Int32))] [(.int (0 : Int32)), (.int (1 : Int32)), (.ref bh)])) rfl rfl (hb hby d10_6)
  have K2 : Keep h0 h2 [bh] := Keep.of_wr W2
  have V2 : Ary Z h2 bh .int [(.int (0 : Int32)), (.int (0 : Int32))] := Ary.set Ah W2 rfl
  have N2 := Fr.snoc X2 N0 gh
  have E2_a0 := Exa.keep E K2
  have F2_a0_heap := Fld.keep Fh K2 (ninS n0h nin0)
  have F2_a0_priorities := Fld.keep Fd K2 (ninS n0h nin0)
  have F2_a0_places := Fld.keep Fp K2 (ninS n0h nin0)
  have F2_a0_size := Fld.keep Fs K2 (ninS n0h nin0)
  have F2_a0_taken := Fld.keep Ft K2 (ninS n0h nin0)
  have A2_bd := Ary.keep Ad K2 (ninS (Ne.symm nhd) nin0)
  have A2_bp := Ary.keep Ap K2 (ninS (Ne.symm nhp) nin0)
  have Z2 : n0 ≤ h2.size := Nat.le_trans Z0 K2.1
  have KK2 : Keep h0 h2 [a0, bh, bd, bp] := (Keep.refl _ _).trans K2 (allS (Or.inl (List.mem_of_getElem? (i := 1) rfl)) all0)
  refine go st2 ?_
  show Run _ _ _ _ _ _ _ T2 (mkF m 7 #[.val (.ref a0), .val (.int (0 : Int32)), .val (.int (1 : Int32))] [])
  refine go (T' := T2) (f' := (mkF m 8 #[.val (.ref a0), .val (.int (0 : Int32)), .val (.int (1 : Int32))] [(.ref a0)])) (by intro t k; exact XS.aloadN X2.here hx rfl (hb hby d10_7) rfl rfl k) ?_
  obtain ⟨T3, X3, e3, st3⟩ := getF X2 hx hZ hown (host := "") (Or.inl (tw hw 15 rfl)) Via.refl e2 F2_a0_places (g := (mkF m 8 #[.val (.ref a0), .val (.int (0 : Int32)), .val (.int (1 : Int32))] [(.ref a0)])) rfl rfl (hb hby d10_8)
  refine go st3 ?_
  show Run _ _ _ _ _ _ _ T3 (mkF m 11 #[.val (.ref a0), .val (.int (0 : Int32)), .val (.int (1 : Int32))] [(.ref bp)])
  refine go (T' := T3) (f' := (mkF m 12 #[.val (.ref a0), .val (.int (0 : Int32)), .val (.int (1 : Int32))] [(.int (0 : Int32)), (.ref bp)])) (by intro t k; exact XS.iloadN X3.here hx rfl (hb hby d10_11) rfl k) ?_
  refine go (T' := T3) (f' := (mkF m 13 #[.val (.ref a0), .val (.int (0 : Int32)), .val (.int (1 : Int32))] [(.int (1 : Int32)), (.int (0 : Int32)), (.ref bp)])) (by intro t k; exact XS.iloadN X3.here hx rfl (hb hby d10_12) rfl k) ?_
  obtain ⟨cl4, Ar4, hin4⟩ := Ary.st (j := (0 : Int32)) A2_bp (by decide) (by show (0 : Int32).toNatClampNeg < 2; decide)
  obtain ⟨T4, h4, X4, e4, W4, st4⟩ := stI X3 hx hZ e3 Ar4 (j := (0 : Int32)) hin4 (g := (mkF m 13 #[.val (.ref a0), .val (.int (0 : Int32)), .val (.int (1 : Int32))] [(.int (1 : Int32)), (.int (0 : Int32)), (.ref bp)])) rfl rfl (hb hby d10_13)
  have K4 : Keep h2 h4 [bp] := Keep.of_wr W4
  have V4 : Ary Z h4 bp .int [(.int (1 : Int32)), (.int (1 : Int32))] := Ary.set A2_bp W4 rfl
  have N4 := Fr.snoc X4 N2 gp
  have E4_a0 := Exa.keep E2_a0 K4
  have F4_a0_heap := Fld.keep F2_a0_heap K4 (ninS n0p nin0)
  have F4_a0_priorities := Fld.keep F2_a0_priorities K4 (ninS n0p nin0)
  have F4_a0_places := Fld.keep F2_a0_places K4 (ninS n0p nin0)
  have F4_a0_size := Fld.keep F2_a0_size K4 (ninS n0p nin0)
  have F4_a0_taken := Fld.keep F2_a0_taken K4 (ninS n0p nin0)
  have A4_bh := Ary.keep V2 K4 (ninS nhp nin0)
  have A4_bd := Ary.keep A2_bd K4 (ninS ndp nin0)
  have Z4 : n0 ≤ h4.size := Nat.le_trans Z2 K4.1
  have KK4 : Keep h0 h4 [a0, bh, bd, bp] := KK2.trans K4 (allS (Or.inl (List.mem_of_getElem? (i := 3) rfl)) all0)
  refine go st4 ?_
  show Run _ _ _ _ _ _ _ T4 (mkF m 14 #[.val (.ref a0), .val (.int (0 : Int32)), .val (.int (1 : Int32))] [])
  refine retV X4 hx Bd.returns (hb hby d10_14) hlk (by decide) (by decide) ?_
  show Q10t30 Z a0 bh bd bp x0 x1 h0 n0 _ T4.heap _
  rw [e4]
  exact ⟨rfl, N4, KK4, ⟨E4_a0, F4_a0_heap, F4_a0_priorities, F4_a0_places, F4_a0_size, F4_a0_taken, A4_bh, A4_bd, V4, g0, gh, gd, gp, n0h, n0d, n0p, nhd, nhp, ndp⟩⟩
theorem ef_10t31 (m : MethodId) (x0 : Addr) : entryFrame m #[(.ref x0), (.int (1 : Int32)), (.int (0 : Int32))] 3 = mkF m 0 #[.val (.ref x0), .val (.int (1 : Int32)), .val (.int (0 : Int32))] [] := by first | (simp [entryFrame, mkF, argsToLocals, Value.category]; done) | rfl
def Q10t31 (Z : State) (a0 : Addr) (bh bd bp : Addr) (x0 x1 : UInt64) (h0 : Heap) (n0 : Nat) (v : Option Value) (h : Heap) (L : List Loc) : Prop := v = none ∧ Fr n0 L ∧ Keep h0 h [a0, bh, bd, bp] ∧ own_st Z n0 h a0 bh bd bp (1 : Int32) (0 : Int32) (1 : Int32) (0 : Int32) (2 : Int32) (0 : Int32) x0 x1
set_option maxRecDepth 65536 in
set_option maxHeartbeats 40000000 in
theorem rm10t31 (l : Launch) (Z : State) (aw : Array Value) (hw : ∀ d ∈ tables_1, d.before aw Z = true) (ws : List Jvm.Cond) (a0 : Addr) (bh bd bp : Addr) (x0 x1 : UInt64) (h0 : Heap) (n0 : Nat) (Z0 : n0 ≤ h0.size) (St : own_st Z n0 h0 a0 bh bd bp (0 : Int32) (0 : Int32) (1 : Int32) (1 : Int32) (2 : Int32) (0 : Int32) x0 x1) :
    MetFree l mmove (head1 (Jvm.Cond.code mmove prog_64_method_9_code 3 none :: ws) rO0) (fun a U => a = #[(.ref a0), (.int (1 : Int32)), (.int (0 : Int32))] ∧ Z.Warmed39 U.vm ∧ U.heap = h0) (fun _ _ _ _ _ => True) (fun _ U o U' => ∃ v L, o = .returned v ∧ Q10t31 Z a0 bh bd bp x0 x1 h0 n0 v U'.heap L ∧ FrameEnd U o U' L rO0.cells rO0.slots) := by
  refine MetFree.of_bodySF (plainFor_of_name pn_1) hisR ?_
  intro p e s m args below meth c s₁ Bd hml0 hP hK
  obtain ⟨rfl, hZ, hh⟩ := hP
  have hx := Bd.exec
  have hby := Bd.bytes
  have hml : c.maxLocals = 3 := hml0
  have hown : s.vm.findClass "com/example/wayshard/wayshard/service/VertexQueue" = some m.cls := findClass_of_methodNamed Bd.named
  have hnm := (name_of_methodNamed Bd.named Bd.method).1
  have hlk : meth.locks = false := BodyLoose.notSynchronized Bd
  have X0 : Stand p l e rO0 s m #[(.ref a0), (.int (1 : Int32)), (.int (0 : Int32))] below meth c s₁ [] 0 0 := Stand.of_body Bd
  have e0 : s₁.heap = h0 := by rw [← hh, Bd.state]; rfl
  have N0 := Fr.nil n0
  show Run p e s below (Q10t31 Z a0 bh bd bp x0 x1 h0 n0) rO0.cells rO0.slots s₁ (entryFrame m #[(.ref a0), (.int (1 : Int32)), (.int (0 : Int32))] 3)
  rw [ef_10t31]
  obtain ⟨E, Fh, Fd, Fp, Fs, Ft, Ah, Ad, Ap, g0, gh, gd, gp, n0h, n0d, n0p, nhd, nhp, ndp⟩ := St
  show Run _ _ _ _ _ _ _ s₁ (mkF m 0 #[.val (.ref a0), .val (.int (1 : Int32)), .val (.int (0 : Int32))] [])
  refine go (T' := s₁) (f' := (mkF m 1 #[.val (.ref a0), .val (.int (1 : Int32)), .val (.int (0 : Int32))] [(.ref a0)])) (by intro t k; exact XS.aloadN X0.here hx rfl (hb hby d10_0) rfl rfl k) ?_
  obtain ⟨T1, X1, e1, st1⟩ := getF X0 hx hZ hown (host := "") (Or.inl (tw hw 10 rfl)) Via.refl e0 Fh (g := (mkF m 1 #[.val (.ref a0), .val (.int (1 : Int32)), .val (.int (0 : Int32))] [(.ref a0)])) rfl rfl (hb hby d10_1)
  refine go st1 ?_
  show Run _ _ _ _ _ _ _ T1 (mkF m 4 #[.val (.ref a0), .val (.int (1 : Int32)), .val (.int (0 : Int32))] [(.ref bh)])
  refine go (T' := T1) (f' := (mkF m 5 #[.val (.ref a0), .val (.int (1 : Int32)), .val (.int (0 : Int32))] [(.int (0 : Int32)), (.ref bh)])) (by intro t k; exact XS.iloadN X1.here hx rfl (hb hby d10_4) rfl k) ?_
  refine go (T' := T1) (f' := (mkF m 6 #[.val (.ref a0), .val (.int (1 : Int32)), .val (.int (0 : Int32))] [(.int (1 : Int32)), (.int (0 : Int32)), (.ref bh)])) (by intro t k; exact XS.iloadN X1.here hx rfl (hb hby d10_5) rfl k) ?_
  obtain ⟨cl2, Ar2, hin2⟩ := Ary.st (j := (0 : Int32)) Ah (by decide) (by show (0 : Int32).toNatClampNeg < 2; decide)
  obtain ⟨T2, h2, X2, e2, W2, st2⟩ := stI X1 hx hZ e1 Ar2 (j := (0 : Int32)) hin2 (g := (mkF m 6 #[.val (.ref a0), .val (.int (1 : Int32)), .val (.int (0 : Int32))] [(.int (1 : Int32)), (.int (0 : Int32)), (.ref bh)])) rfl rfl (hb hby d10_6)
  have K2 : Keep h0 h2 [bh] := Keep.of_wr W2
  have V2 : Ary Z h2 bh .int [(.int (1 : Int32)), (.int (0 : Int32))] := Ary.set Ah W2 rfl
  have N2 := Fr.snoc X2 N0 gh
  have E2_a0 := Exa.keep E K2
  have F2_a0_heap := Fld.keep Fh K2 (ninS n0h nin0)
  have F2_a0_priorities := Fld.keep Fd K2 (ninS n0h nin0)
  have F2_a0_places := Fld.keep Fp K2 (ninS n0h nin0)
  have F2_a0_size := Fld.keep Fs K2 (ninS n0h nin0)
  have F2_a0_taken := Fld.keep Ft K2 (ninS n0h nin0)
  have A2_bd := Ary.keep Ad K2 (ninS (Ne.symm nhd) nin0)
  have A2_bp := Ary.keep Ap K2 (ninS (Ne.symm nhp) nin0)
  have Z2 : n0 ≤ h2.size := Nat.le_trans Z0 K2.1
  have KK2 : Keep h0 h2 [a0, bh, bd, bp] := (Keep.refl _ _).trans K2 (allS (Or.inl (List.mem_of_getElem? (i := 1) rfl)) all0)
  refine go st2 ?_
  show Run _ _ _ _ _ _ _ T2 (mkF m 7 #[.val (.ref a0), .val (.int (1 : Int32)), .val (.int (0 : Int32))] [])
  refine go (T' := T2) (f' := (mkF m 8 #[.val (.ref a0), .val (.int (1 : Int32)), .val (.int (0 : Int32))] [(.ref a0)])) (by intro t k; exact XS.aloadN X2.here hx rfl (hb hby d10_7) rfl rfl k) ?_
  obtain ⟨T3, X3, e3, st3⟩ := getF X2 hx hZ hown (host := "") (Or.inl (tw hw 15 rfl)) Via.refl e2 F2_a0_places (g := (mkF m 8 #[.val (.ref a0), .val (.int (1 : Int32)), .val (.int (0 : Int32))] [(.ref a0)])) rfl rfl (hb hby d10_8)
  refine go st3 ?_
  show Run _ _ _ _ _ _ _ T3 (mkF m 11 #[.val (.ref a0), .val (.int (1 : Int32)), .val (.int (0 : Int32))] [(.ref bp)])
  refine go (T' := T3) (f' := (mkF m 12 #[.val (.ref a0), .val (.int (1 : Int32)), .val (.int (0 : Int32))] [(.int (1 : Int32)), (.ref bp)])) (by intro t k; exact XS.iloadN X3.here hx rfl (hb hby d10_11) rfl k) ?_
  refine go (T' := T3) (f' := (mkF m 13 #[.val (.ref a0), .val (.int (1 : Int32)), .val (.int (0 : Int32))] [(.int (0 : Int32)), (.int (1 : Int32)), (.ref bp)])) (by intro t k; exact XS.iloadN X3.here hx rfl (hb hby d10_12) rfl k) ?_
  obtain ⟨cl4, Ar4, hin4⟩ := Ary.st (j := (1 : Int32)) A2_bp (by decide) (by show (1 : Int32).toNatClampNeg < 2; decide)
  obtain ⟨T4, h4, X4, e4, W4, st4⟩ := stI X3 hx hZ e3 Ar4 (j := (1 : Int32)) hin4 (g := (mkF m 13 #[.val (.ref a0), .val (.int (1 : Int32)), .val (.int (0 : Int32))] [(.int (0 : Int32)), (.int (1 : Int32)), (.ref bp)])) rfl rfl (hb hby d10_13)
  have K4 : Keep h2 h4 [bp] := Keep.of_wr W4
  have V4 : Ary Z h4 bp .int [(.int (1 : Int32)), (.int (0 : Int32))] := Ary.set A2_bp W4 rfl
  have N4 := Fr.snoc X4 N2 gp
  have E4_a0 := Exa.keep E2_a0 K4
  have F4_a0_heap := Fld.keep F2_a0_heap K4 (ninS n0p nin0)
  have F4_a0_priorities := Fld.keep F2_a0_priorities K4 (ninS n0p nin0)
  have F4_a0_places := Fld.keep F2_a0_places K4 (ninS n0p nin0)
  have F4_a0_size := Fld.keep F2_a0_size K4 (ninS n0p nin0)
  have F4_a0_taken := Fld.keep F2_a0_taken K4 (ninS n0p nin0)
  have A4_bh := Ary.keep V2 K4 (ninS nhp nin0)
  have A4_bd := Ary.keep A2_bd K4 (ninS ndp nin0)
  have Z4 : n0 ≤ h4.size := Nat.le_trans Z2 K4.1
  have KK4 : Keep h0 h4 [a0, bh, bd, bp] := KK2.trans K4 (allS (Or.inl (List.mem_of_getElem? (i := 3) rfl)) all0)
  refine go st4 ?_
  show Run _ _ _ _ _ _ _ T4 (mkF m 14 #[.val (.ref a0), .val (.int (1 : Int32)), .val (.int (0 : Int32))] [])
  refine retV X4 hx Bd.returns (hb hby d10_14) hlk (by decide) (by decide) ?_
  show Q10t31 Z a0 bh bd bp x0 x1 h0 n0 _ T4.heap _
  rw [e4]
  exact ⟨rfl, N4, KK4, ⟨E4_a0, F4_a0_heap, F4_a0_priorities, F4_a0_places, F4_a0_size, F4_a0_taken, A4_bh, A4_bd, V4, g0, gh, gd, gp, n0h, n0d, n0p, nhd, nhp, ndp⟩⟩
theorem ef_10t32 (m : MethodId) (x0 : Addr) : entryFrame m #[(.ref x0), (.int (1 : Int32)), (.int (1 : Int32))] 3 = mkF m 0 #[.val (.ref x0), .val (.int (1 : Int32)), .val (.int (1 : Int32))] [] := by first | (simp [entryFrame, mkF, argsToLocals, Value.category]; done) | rfl
def Q10t32 (Z : State) (a0 : Addr) (bh bd bp : Addr) (x0 x1 : UInt64) (h0 : Heap) (n0 : Nat) (v : Option Value) (h : Heap) (L : List Loc) : Prop := v = none ∧ Fr n0 L ∧ Keep h0 h [a0, bh, bd, bp] ∧ own_st Z n0 h a0 bh bd bp (0 : Int32) (1 : Int32) (0 : Int32) (1 : Int32) (2 : Int32) (0 : Int32) x0 x1
set_option maxRecDepth 65536 in
set_option maxHeartbeats 40000000 in
theorem rm10t32 (l : Launch) (Z : State) (aw : Array Value) (hw : ∀ d ∈ tables_1, d.before aw Z = true) (ws : List Jvm.Cond) (a0 : Addr) (bh bd bp : Addr) (x0 x1 : UInt64) (h0 : Heap) (n0 : Nat) (Z0 : n0 ≤ h0.size) (St : own_st Z n0 h0 a0 bh bd bp (0 : Int32) (1 : Int32) (0 : Int32) (1 : Int32) (2 : Int32) (0 : Int32) x0 x1) :
    MetFree l mmove (head1 (Jvm.Cond.code mmove prog_64_method_9_code 3 none :: ws) rO0) (fun a U => a = #[(.ref a0), (.int (1 : Int32)), (.int (1 : Int32))] ∧ Z.Warmed39 U.vm ∧ U.heap = h0) (fun _ _ _ _ _ => True) (fun _ U o U' => ∃ v L, o = .returned v ∧ Q10t32 Z a0 bh bd bp x0 x1 h0 n0 v U'.heap L ∧ FrameEnd U o U' L rO0.cells rO0.slots) := by
  refine MetFree.of_bodySF (plainFor_of_name pn_1) hisR ?_
  intro p e s m args below meth c s₁ Bd hml0 hP hK
  obtain ⟨rfl, hZ, hh⟩ := hP
  have hx := Bd.exec
  have hby := Bd.bytes
  have hml : c.maxLocals = 3 := hml0
  have hown : s.vm.findClass "com/example/wayshard/wayshard/service/VertexQueue" = some m.cls := findClass_of_methodNamed Bd.named
  have hnm := (name_of_methodNamed Bd.named Bd.method).1
  have hlk : meth.locks = false := BodyLoose.notSynchronized Bd
  have X0 : Stand p l e rO0 s m #[(.ref a0), (.int (1 : Int32)), (.int (1 : Int32))] below meth c s₁ [] 0 0 := Stand.of_body Bd
  have e0 : s₁.heap = h0 := by rw [← hh, Bd.state]; rfl
  have N0 := Fr.nil n0
  show Run p e s below (Q10t32 Z a0 bh bd bp x0 x1 h0 n0) rO0.cells rO0.slots s₁ (entryFrame m #[(.ref a0), (.int (1 : Int32)), (.int (1 : Int32))] 3)
  rw [ef_10t32]
  obtain ⟨E, Fh, Fd, Fp, Fs, Ft, Ah, Ad, Ap, g0, gh, gd, gp, n0h, n0d, n0p, nhd, nhp, ndp⟩ := St
  show Run _ _ _ _ _ _ _ s₁ (mkF m 0 #[.val (.ref a0), .val (.int (1 : Int32)), .val (.int (1 : Int32))] [])
  refine go (T' := s₁) (f' := (mkF m 1 #[.val (.ref a0), .val (.int (1 : Int32)), .val (.int (1 : Int32))] [(.ref a0)])) (by intro t k; exact XS.aloadN X0.here hx rfl (hb hby d10_0) rfl rfl k) ?_
  obtain ⟨T1, X1, e1, st1⟩ := getF X0 hx hZ hown (host := "") (Or.inl (tw hw 10 rfl)) Via.refl e0 Fh (g := (mkF m 1 #[.val (.ref a0), .val (.int (1 : Int32)), .val (.int (1 : Int32))] [(.ref a0)])) rfl rfl (hb hby d10_1)
  refine go st1 ?_
  show Run _ _ _ _ _ _ _ T1 (mkF m 4 #[.val (.ref a0), .val (.int (1 : Int32)), .val (.int (1 : Int32))] [(.ref bh)])
  refine go (T' := T1) (f' := (mkF m 5 #[.val (.ref a0), .val (.int (1 : Int32)), .val (.int (1 : Int32))] [(.int (1 : Int32)), (.ref bh)])) (by intro t k; exact XS.iloadN X1.here hx rfl (hb hby d10_4) rfl k) ?_
  refine go (T' := T1) (f' := (mkF m 6 #[.val (.ref a0), .val (.int (1 : Int32)), .val (.int (1 : Int32))] [(.int (1 : Int32)), (.int (1 : Int32)), (.ref bh)])) (by intro t k; exact XS.iloadN X1.here hx rfl (hb hby d10_5) rfl k) ?_
  obtain ⟨cl2, Ar2, hin2⟩ := Ary.st (j := (1 : Int32)) Ah (by decide) (by show (1 : Int32).toNatClampNeg < 2; decide)
  obtain ⟨T2, h2, X2, e2, W2, st2⟩ := stI X1 hx hZ e1 Ar2 (j := (1 : Int32)) hin2 (g := (mkF m 6 #[.val (.ref a0), .val (.int (1 : Int32)), .val (.int (1 : Int32))] [(.int (1 : Int32)), (.int (1 : Int32)), (.ref bh)])) rfl rfl (hb hby d10_6)
  have K2 : Keep h0 h2 [bh] := Keep.of_wr W2
  have V2 : Ary Z h2 bh .int [(.int (0 : Int32)), (.int (1 : Int32))] := Ary.set Ah W2 rfl
  have N2 := Fr.snoc X2 N0 gh
  have E2_a0 := Exa.keep E K2
  have F2_a0_heap := Fld.keep Fh K2 (ninS n0h nin0)
  have F2_a0_priorities := Fld.keep Fd K2 (ninS n0h nin0)
  have F2_a0_places := Fld.keep Fp K2 (ninS n0h nin0)
  have F2_a0_size := Fld.keep Fs K2 (ninS n0h nin0)
  have F2_a0_taken := Fld.keep Ft K2 (ninS n0h nin0)
  have A2_bd := Ary.keep Ad K2 (ninS (Ne.symm nhd) nin0)
  have A2_bp := Ary.keep Ap K2 (ninS (Ne.symm nhp) nin0)
  have Z2 : n0 ≤ h2.size := Nat.le_trans Z0 K2.1
  have KK2 : Keep h0 h2 [a0, bh, bd, bp] := (Keep.refl _ _).trans K2 (allS (Or.inl (List.mem_of_getElem? (i := 1) rfl)) all0)
  refine go st2 ?_
  show Run _ _ _ _ _ _ _ T2 (mkF m 7 #[.val (.ref a0), .val (.int (1 : Int32)), .val (.int (1 : Int32))] [])
  refine go (T' := T2) (f' := (mkF m 8 #[.val (.ref a0), .val (.int (1 : Int32)), .val (.int (1 : Int32))] [(.ref a0)])) (by intro t k; exact XS.aloadN X2.here hx rfl (hb hby d10_7) rfl rfl k) ?_
  obtain ⟨T3, X3, e3, st3⟩ := getF X2 hx hZ hown (host := "") (Or.inl (tw hw 15 rfl)) Via.refl e2 F2_a0_places (g := (mkF m 8 #[.val (.ref a0), .val (.int (1 : Int32)), .val (.int (1 : Int32))] [(.ref a0)])) rfl rfl (hb hby d10_8)
  refine go st3 ?_
  show Run _ _ _ _ _ _ _ T3 (mkF m 11 #[.val (.ref a0), .val (.int (1 : Int32)), .val (.int (1 : Int32))] [(.ref bp)])
  refine go (T' := T3) (f' := (mkF m 12 #[.val (.ref a0), .val (.int (1 : Int32)), .val (.int (1 : Int32))] [(.int (1 : Int32)), (.ref bp)])) (by intro t k; exact XS.iloadN X3.here hx rfl (hb hby d10_11) rfl k) ?_
  refine go (T' := T3) (f' := (mkF m 13 #[.val (.ref a0), .val (.int (1 : Int32)), .val (.int (1 : Int32))] [(.int (1 : Int32)), (.int (1 : Int32)), (.ref bp)])) (by intro t k; exact XS.iloadN X3.here hx rfl (hb hby d10_12) rfl k) ?_
  obtain ⟨cl4, Ar4, hin4⟩ := Ary.st (j := (1 : Int32)) A2_bp (by decide) (by show (1 : Int32).toNatClampNeg < 2; decide)
  obtain ⟨T4, h4, X4, e4, W4, st4⟩ := stI X3 hx hZ e3 Ar4 (j := (1 : Int32)) hin4 (g := (mkF m 13 #[.val (.ref a0), .val (.int (1 : Int32)), .val (.int (1 : Int32))] [(.int (1 : Int32)), (.int (1 : Int32)), (.ref bp)])) rfl rfl (hb hby d10_13)
  have K4 : Keep h2 h4 [bp] := Keep.of_wr W4
  have V4 : Ary Z h4 bp .int [(.int (0 : Int32)), (.int (1 : Int32))] := Ary.set A2_bp W4 rfl
  have N4 := Fr.snoc X4 N2 gp
  have E4_a0 := Exa.keep E2_a0 K4
  have F4_a0_heap := Fld.keep F2_a0_heap K4 (ninS n0p nin0)
  have F4_a0_priorities := Fld.keep F2_a0_priorities K4 (ninS n0p nin0)
  have F4_a0_places := Fld.keep F2_a0_places K4 (ninS n0p nin0)
  have F4_a0_size := Fld.keep F2_a0_size K4 (ninS n0p nin0)
  have F4_a0_taken := Fld.keep F2_a0_taken K4 (ninS n0p nin0)
  have A4_bh := Ary.keep V2 K4 (ninS nhp nin0)
  have A4_bd := Ary.keep A2_bd K4 (ninS ndp nin0)
  have Z4 : n0 ≤ h4.size := Nat.le_trans Z2 K4.1
  have KK4 : Keep h0 h4 [a0, bh, bd, bp] := KK2.trans K4 (allS (Or.inl (List.mem_of_getElem? (i := 3) rfl)) all0)
  refine go st4 ?_
  show Run _ _ _ _ _ _ _ T4 (mkF m 14 #[.val (.ref a0), .val (.int (1 : Int32)), .val (.int (1 : Int32))] [])
  refine retV X4 hx Bd.returns (hb hby d10_14) hlk (by decide) (by decide) ?_
  show Q10t32 Z a0 bh bd bp x0 x1 h0 n0 _ T4.heap _
  rw [e4]
  exact ⟨rfl, N4, KK4, ⟨E4_a0, F4_a0_heap, F4_a0_priorities, F4_a0_places, F4_a0_size, F4_a0_taken, A4_bh, A4_bd, V4, g0, gh, gd, gp, n0h, n0d, n0p, nhd, nhp, ndp⟩⟩
theorem d9_13 : decode prog_64_method_7_code 13 = .ok (.iload_n 3, 1) := by decide +kernel
theorem d9_14 : decode prog_64_method_7_code 14 = .ok (.iconst 1, 1) := by decide +kernel
theorem d9_15 : decode prog_64_method_7_code 15 = .ok (.isub, 1) := by decide +kernel
theorem d9_16 : decode prog_64_method_7_code 16 = .ok (.iconst 2, 1) := by decide +kernel
theorem d9_17 : decode prog_64_method_7_code 17 = .ok (.idiv, 1) := by decide +kernel
theorem d9_18 : decode prog_64_method_7_code 18 = .ok (.istore 4, 2) := by decide +kernel
theorem d9_20 : decode prog_64_method_7_code 20 = .ok (.aload_n 0, 1) := by decide +kernel
theorem d9_21 : decode prog_64_method_7_code 21 = .ok (.getfield 13, 3) := by decide +kernel
theorem d9_24 : decode prog_64_method_7_code 24 = .ok (.aload_n 0, 1) := by decide +kernel
theorem d9_25 : decode prog_64_method_7_code 25 = .ok (.getfield 7, 3) := by decide +kernel
theorem d9_28 : decode prog_64_method_7_code 28 = .ok (.iload 4, 2) := by decide +kernel
theorem d9_30 : decode prog_64_method_7_code 30 = .ok (.iaload, 1) := by decide +kernel
theorem d9_31 : decode prog_64_method_7_code 31 = .ok (.daload, 1) := by decide +kernel
theorem d9_32 : decode prog_64_method_7_code 32 = .ok (.aload_n 0, 1) := by decide +kernel
theorem d9_33 : decode prog_64_method_7_code 33 = .ok (.getfield 13, 3) := by decide +kernel
theorem d9_36 : decode prog_64_method_7_code 36 = .ok (.iload_n 2, 1) := by decide +kernel
theorem d9_37 : decode prog_64_method_7_code 37 = .ok (.daload, 1) := by decide +kernel
theorem d9_38 : decode prog_64_method_7_code 38 = .ok (.dcmp .g, 1) := by decide +kernel
theorem d9_39 : decode prog_64_method_7_code 39 = .ok (.ifCond .gt 6, 3) := by decide +kernel
theorem d9_45 : decode prog_64_method_7_code 45 = .ok (.aload_n 0, 1) := by decide +kernel
theorem d9_46 : decode prog_64_method_7_code 46 = .ok (.aload_n 0, 1) := by decide +kernel
theorem d9_47 : decode prog_64_method_7_code 47 = .ok (.getfield 7, 3) := by decide +kernel
theorem d9_50 : decode prog_64_method_7_code 50 = .ok (.iload 4, 2) := by decide +kernel
theorem d9_52 : decode prog_64_method_7_code 52 = .ok (.iaload, 1) := by decide +kernel
theorem d9_53 : decode prog_64_method_7_code 53 = .ok (.iload_n 3, 1) := by decide +kernel
theorem d9_54 : decode prog_64_method_7_code 54 = .ok (.invokevirtual 43, 3) := by decide +kernel
theorem d9_57 : decode prog_64_method_7_code 57 = .ok (.iload 4, 2) := by decide +kernel
theorem d9_59 : decode prog_64_method_7_code 59 = .ok (.istore_n 3, 1) := by decide +kernel
theorem d9_60 : decode prog_64_method_7_code 60 = .ok (.goto (-51), 3) := by decide +kernel
theorem d9_42 : decode prog_64_method_7_code 42 = .ok (.goto 21, 3) := by decide +kernel
theorem ef_9t29 (m : MethodId) (x0 : Addr) : entryFrame m #[(.ref x0), (.int (1 : Int32))] 5 = mkF m 0 #[.val (.ref x0), .val (.int (1 : Int32)), .unset, .unset, .unset] [] := by first | (simp [entryFrame, mkF, argsToLocals, Value.category]; done) | rfl
def Q9t29 (Z : State) (a0 : Addr) (bh bd bp : Addr) (x0 x1 : UInt64) (h0 : Heap) (n0 : Nat) (v : Option Value) (h : Heap) (L : List Loc) : Prop := v = none ∧ Fr n0 L ∧ Keep h0 h [a0, bh, bd, bp] ∧ (own_st Z n0 h a0 bh bd bp (1 : Int32) (0 : Int32) (1 : Int32) (0 : Int32) (2 : Int32) (0 : Int32) x0 x1 ∨ own_st Z n0 h a0 bh bd bp (0 : Int32) (1 : Int32) (0 : Int32) (1 : Int32) (2 : Int32) (0 : Int32) x0 x1)
set_option maxRecDepth 65536 in
set_option maxHeartbeats 40000000 in
theorem rm9t29 (l : Launch) (Z : State) (aw : Array Value) (hw : ∀ d ∈ tables_1, d.before aw Z = true) (ws : List Jvm.Cond) (a0 : Addr) (bh bd bp : Addr) (x0 x1 : UInt64) (h0 : Heap) (n0 : Nat) (Z0 : n0 ≤ h0.size) (St : own_st Z n0 h0 a0 bh bd bp (0 : Int32) (1 : Int32) (0 : Int32) (1 : Int32) (2 : Int32) (0 : Int32) x0 x1) :
    MetFree l msiftUp (head1 (Jvm.Cond.code msiftUp prog_64_method_7_code 5 none :: ws) rO1) (fun a U => a = #[(.ref a0), (.int (1 : Int32))] ∧ Z.Warmed39 U.vm ∧ U.heap = h0) (fun _ _ _ _ _ => True) (fun _ U o U' => ∃ v L, o = .returned v ∧ Q9t29 Z a0 bh bd bp x0 x1 h0 n0 v U'.heap L ∧ FrameEnd U o U' L rO1.cells rO1.slots) := by
  refine MetFree.of_bodySF (plainFor_of_name pn_1) hisR ?_
  intro p e s m args below meth c s₁ Bd hml0 hP hK
  obtain ⟨rfl, hZ, hh⟩ := hP
  have hx := Bd.exec
  have hby := Bd.bytes
  have hml : c.maxLocals = 5 := hml0
  have hown : s.vm.findClass "com/example/wayshard/wayshard/service/VertexQueue" = some m.cls := findClass_of_methodNamed Bd.named
  have hnm := (name_of_methodNamed Bd.named Bd.method).1
  have hlk : meth.locks = false := BodyLoose.notSynchronized Bd
  have X0 : Stand p l e rO1 s m #[(.ref a0), (.int (1 : Int32))] below meth c s₁ [] 0 0 := Stand.of_body Bd
  have e0 : s₁.heap = h0 := by rw [← hh, Bd.state]; rfl
  have N0 := Fr.nil n0
  show Run p e s below (Q9t29 Z a0 bh bd bp x0 x1 h0 n0) rO1.cells rO1.slots s₁ (entryFrame m #[(.ref a0), (.int (1 : Int32))] 5)
  rw [ef_9t29]
  obtain ⟨E, Fh, Fd, Fp, Fs, Ft, Ah, Ad, Ap, g0, gh, gd, gp, n0h, n0d, n0p, nhd, nhp, ndp⟩ := St
  show Run _ _ _ _ _ _ _ s₁ (mkF m 0 #[.val (.ref a0), .val (.int (1 : Int32)), .unset, .unset, .unset] [])
  refine go (T' := s₁) (f' := (mkF m 1 #[.val (.ref a0), .val (.int (1 : Int32)), .unset, .unset, .unset] [(.ref a0)])) (by intro t k; exact XS.aloadN X0.here hx rfl (hb hby d9_0) rfl rfl k) ?_
  obtain ⟨T1, X1, e1, st1⟩ := getF X0 hx hZ hown (host := "") (Or.inl (tw hw 10 rfl)) Via.refl e0 Fh (g := (mkF m 1 #[.val (.ref a0), .val (.int (1 : Int32)), .unset, .unset, .unset] [(.ref a0)])) rfl rfl (hb hby d9_1)
  refine go st1 ?_
  show Run _ _ _ _ _ _ _ T1 (mkF m 4 #[.val (.ref a0), .val (.int (1 : Int32)), .unset, .unset, .unset] [(.ref bh)])
  refine go (T' := T1) (f' := (mkF m 5 #[.val (.ref a0), .val (.int (1 : Int32)), .unset, .unset, .unset] [(.int (1 : Int32)), (.ref bh)])) (by intro t k; exact XS.iloadN X1.here hx rfl (hb hby d9_4) rfl k) ?_
  refine go (T' := T1) (f' := (mkF m 6 #[.val (.ref a0), .val (.int (1 : Int32)), .unset, .unset, .unset] [(.int (1 : Int32))])) (by intro t k; exact ldI X1 hx hZ e1 Ah (j := (1 : Int32)) (v := (.int (1 : Int32))) (by decide) rfl (g := (mkF m 5 #[.val (.ref a0), .val (.int (1 : Int32)), .unset, .unset, .unset] [(.int (1 : Int32)), (.ref bh)])) rfl rfl (hb hby d9_5) _ k) ?_
  refine go (T' := T1) (f' := (mkF m 7 #[.val (.ref a0), .val (.int (1 : Int32)), .val (.int (1 : Int32)), .unset, .unset] [])) (by intro t k; exact XS.istoreN X1.here hx rfl (hb hby d9_6) rfl (l' := #[.val (.ref a0), .val (.int (1 : Int32)), .val (.int (1 : Int32)), .unset, .unset]) rfl k) ?_
  refine go (T' := T1) (f' := (mkF m 8 #[.val (.ref a0), .val (.int (1 : Int32)), .val (.int (1 : Int32)), .unset, .unset] [(.int (1 : Int32))])) (by intro t k; exact XS.iloadN X1.here hx rfl (hb hby d9_7) rfl k) ?_
  refine go (T' := T1) (f' := (mkF m 9 #[.val (.ref a0), .val (.int (1 : Int32)), .val (.int (1 : Int32)), .val (.int (1 : Int32)), .unset] [])) (by intro t k; exact XS.istoreN X1.here hx rfl (hb hby d9_8) rfl (l' := #[.val (.ref a0), .val (.int (1 : Int32)), .val (.int (1 : Int32)), .val (.int (1 : Int32)), .unset]) rfl k) ?_
  refine go (T' := T1) (f' := (mkF m 10 #[.val (.ref a0), .val (.int (1 : Int32)), .val (.int (1 : Int32)), .val (.int (1 : Int32)), .unset] [(.int (1 : Int32))])) (by intro t k; exact XS.iloadN X1.here hx rfl (hb hby d9_9) rfl k) ?_
  refine go (T' := T1) (f' := (mkF m 13 #[.val (.ref a0), .val (.int (1 : Int32)), .val (.int (1 : Int32)), .val (.int (1 : Int32)), .unset] [])) (by intro t k; exact XS.ifNo X1.here hx rfl (hb hby d9_10) rfl ((if0 _ _).trans (tlt (by decide : (0 : Int32) < (1 : Int32))).2.2.2) k) ?_
  refine go (T' := T1) (f' := (mkF m 14 #[.val (.ref a0), .val (.int (1 : Int32)), .val (.int (1 : Int32)), .val (.int (1 : Int32)), .unset] [(.int (1 : Int32))])) (by intro t k; exact XS.iloadN X1.here hx rfl (hb hby d9_13) rfl k) ?_
  refine go (T' := T1) (f' := (mkF m 15 #[.val (.ref a0), .val (.int (1 : Int32)), .val (.int (1 : Int32)), .val (.int (1 : Int32)), .unset] [(.int (1 : Int32)), (.int (1 : Int32))])) (by intro t k; exact XS.iconst X1.here hx rfl (hb hby d9_14) k) ?_
  refine go (T' := T1) (f' := (mkF m 16 #[.val (.ref a0), .val (.int (1 : Int32)), .val (.int (1 : Int32)), .val (.int (1 : Int32)), .unset] [(.int (0 : Int32))])) (by intro t k; exact XS.isub X1.here hx rfl (hb hby d9_15) rfl k) ?_
  refine go (T' := T1) (f' := (mkF m 17 #[.val (.ref a0), .val (.int (1 : Int32)), .val (.int (1 : Int32)), .val (.int (1 : Int32)), .unset] [(.int (2 : Int32)), (.int (0 : Int32))])) (by intro t k; exact XS.iconst X1.here hx rfl (hb hby d9_16) k) ?_
  refine go (T' := T1) (f' := (mkF m 18 #[.val (.ref a0), .val (.int (1 : Int32)), .val (.int (1 : Int32)), .val (.int (1 : Int32)), .unset] [(.int (0 : Int32))])) (by intro t k; exact XS.idiv X1.here hx rfl (hb hby d9_17) rfl (by decide) k) ?_
  refine go (T' := T1) (f' := (mkF m 20 #[.val (.ref a0), .val (.int (1 : Int32)), .val (.int (1 : Int32)), .val (.int (1 : Int32)), .val (.int (0 : Int32))] [])) (by intro t k; exact XS.istore X1.here hx rfl (hb hby d9_18) rfl (l' := #[.val (.ref a0), .val (.int (1 : Int32)), .val (.int (1 : Int32)), .val (.int (1 : Int32)), .val (.int (0 : Int32))]) rfl k) ?_
  refine go (T' := T1) (f' := (mkF m 21 #[.val (.ref a0), .val (.int (1 : Int32)), .val (.int (1 : Int32)), .val (.int (1 : Int32)), .val (.int (0 : Int32))] [(.ref a0)])) (by intro t k; exact XS.aloadN X1.here hx rfl (hb hby d9_20) rfl rfl k) ?_
  obtain ⟨T2, X2, e2, st2⟩ := getF X1 hx hZ hown (host := "") (Or.inl (tw hw 13 rfl)) Via.refl e1 Fd (g := (mkF m 21 #[.val (.ref a0), .val (.int (1 : Int32)), .val (.int (1 : Int32)), .val (.int (1 : Int32)), .val (.int (0 : Int32))] [(.ref a0)])) rfl rfl (hb hby d9_21)
  refine go st2 ?_
  show Run _ _ _ _ _ _ _ T2 (mkF m 24 #[.val (.ref a0), .val (.int (1 : Int32)), .val (.int (1 : Int32)), .val (.int (1 : Int32)), .val (.int (0 : Int32))] [(.ref bd)])
  refine go (T' := T2) (f' := (mkF m 25 #[.val (.ref a0), .val (.int (1 : Int32)), .val (.int (1 : Int32)), .val (.int (1 : Int32)), .val (.int (0 : Int32))] [(.ref a0), (.ref bd)])) (by intro t k; exact XS.aloadN X2.here hx rfl (hb hby d9_24) rfl rfl k) ?_
  obtain ⟨T3, X3, e3, st3⟩ := getF X2 hx hZ hown (host := "") (Or.inl (tw hw 10 rfl)) Via.refl e2 Fh (g := (mkF m 25 #[.val (.ref a0), .val (.int (1 : Int32)), .val (.int (1 : Int32)), .val (.int (1 : Int32)), .val (.int (0 : Int32))] [(.ref a0), (.ref bd)])) rfl rfl (hb hby d9_25)
  refine go st3 ?_
  show Run _ _ _ _ _ _ _ T3 (mkF m 28 #[.val (.ref a0), .val (.int (1 : Int32)), .val (.int (1 : Int32)), .val (.int (1 : Int32)), .val (.int (0 : Int32))] [(.ref bh), (.ref bd)])
  refine go (T' := T3) (f' := (mkF m 30 #[.val (.ref a0), .val (.int (1 : Int32)), .val (.int (1 : Int32)), .val (.int (1 : Int32)), .val (.int (0 : Int32))] [(.int (0 : Int32)), (.ref bh), (.ref bd)])) (by intro t k; exact XS.iload X3.here hx rfl (hb hby d9_28) rfl k) ?_
  refine go (T' := T3) (f' := (mkF m 31 #[.val (.ref a0), .val (.int (1 : Int32)), .val (.int (1 : Int32)), .val (.int (1 : Int32)), .val (.int (0 : Int32))] [(.int (0 : Int32)), (.ref bd)])) (by intro t k; exact ldI X3 hx hZ e3 Ah (j := (0 : Int32)) (v := (.int (0 : Int32))) (by decide) rfl (g := (mkF m 30 #[.val (.ref a0), .val (.int (1 : Int32)), .val (.int (1 : Int32)), .val (.int (1 : Int32)), .val (.int (0 : Int32))] [(.int (0 : Int32)), (.ref bh), (.ref bd)])) rfl rfl (hb hby d9_30) _ k) ?_
  refine go (T' := T3) (f' := (mkF m 32 #[.val (.ref a0), .val (.int (1 : Int32)), .val (.int (1 : Int32)), .val (.int (1 : Int32)), .val (.int (0 : Int32))] [(.double x0)])) (by intro t k; exact ldD X3 hx hZ e3 Ad (j := (0 : Int32)) (v := (.double x0)) (by decide) rfl (g := (mkF m 31 #[.val (.ref a0), .val (.int (1 : Int32)), .val (.int (1 : Int32)), .val (.int (1 : Int32)), .val (.int (0 : Int32))] [(.int (0 : Int32)), (.ref bd)])) rfl rfl (hb hby d9_31) _ k) ?_
  refine go (T' := T3) (f' := (mkF m 33 #[.val (.ref a0), .val (.int (1 : Int32)), .val (.int (1 : Int32)), .val (.int (1 : Int32)), .val (.int (0 : Int32))] [(.ref a0), (.double x0)])) (by intro t k; exact XS.aloadN X3.here hx rfl (hb hby d9_32) rfl rfl k) ?_
  obtain ⟨T4, X4, e4, st4⟩ := getF X3 hx hZ hown (host := "") (Or.inl (tw hw 13 rfl)) Via.refl e3 Fd (g := (mkF m 33 #[.val (.ref a0), .val (.int (1 : Int32)), .val (.int (1 : Int32)), .val (.int (1 : Int32)), .val (.int (0 : Int32))] [(.ref a0), (.double x0)])) rfl rfl (hb hby d9_33)
  refine go st4 ?_
  show Run _ _ _ _ _ _ _ T4 (mkF m 36 #[.val (.ref a0), .val (.int (1 : Int32)), .val (.int (1 : Int32)), .val (.int (1 : Int32)), .val (.int (0 : Int32))] [(.ref bd), (.double x0)])
  refine go (T' := T4) (f' := (mkF m 37 #[.val (.ref a0), .val (.int (1 : Int32)), .val (.int (1 : Int32)), .val (.int (1 : Int32)), .val (.int (0 : Int32))] [(.int (1 : Int32)), (.ref bd), (.double x0)])) (by intro t k; exact XS.iloadN X4.here hx rfl (hb hby d9_36) rfl k) ?_
  refine go (T' := T4) (f' := (mkF m 38 #[.val (.ref a0), .val (.int (1 : Int32)), .val (.int (1 : Int32)), .val (.int (1 : Int32)), .val (.int (0 : Int32))] [(.double x1), (.double x0)])) (by intro t k; exact ldD X4 hx hZ e4 Ad (j := (1 : Int32)) (v := (.double x1)) (by decide) rfl (g := (mkF m 37 #[.val (.ref a0), .val (.int (1 : Int32)), .val (.int (1 : Int32)), .val (.int (1 : Int32)), .val (.int (0 : Int32))] [(.int (1 : Int32)), (.ref bd), (.double x0)])) rfl rfl (hb hby d9_37) _ k) ?_
  refine go (T' := T4) (f' := (mkF m 39 #[.val (.ref a0), .val (.int (1 : Int32)), .val (.int (1 : Int32)), .val (.int (1 : Int32)), .val (.int (0 : Int32))] [(.int (cmpValue (FP.dcmp x0 x1) .g))])) (by intro t k; exact XS.dcmpS X4.here hx rfl (hb hby d9_38) rfl rfl k) ?_
  by_cases hc39 : (0 : Int32) < (cmpValue (FP.dcmp x0 x1) .g)
  · refine go (T' := T4) (f' := (mkF m 45 #[.val (.ref a0), .val (.int (1 : Int32)), .val (.int (1 : Int32)), .val (.int (1 : Int32)), .val (.int (0 : Int32))] [])) (by intro t k; exact XS.ifYes X4.here hx rfl (pc0 := 39) (pc' := 45) rfl (hb hby d9_39) rfl ((if0 _ _).trans (tlt hc39).2.2.1) (by decide) (by decide) k) ?_
    refine go (T' := T4) (f' := (mkF m 46 #[.val (.ref a0), .val (.int (1 : Int32)), .val (.int (1 : Int32)), .val (.int (1 : Int32)), .val (.int (0 : Int32))] [(.ref a0)])) (by intro t k; exact XS.aloadN X4.here hx rfl (hb hby d9_45) rfl rfl k) ?_
    refine go (T' := T4) (f' := (mkF m 47 #[.val (.ref a0), .val (.int (1 : Int32)), .val (.int (1 : Int32)), .val (.int (1 : Int32)), .val (.int (0 : Int32))] [(.ref a0), (.ref a0)])) (by intro t k; exact XS.aloadN X4.here hx rfl (hb hby d9_46) rfl rfl k) ?_
    obtain ⟨T5, X5, e5, st5⟩ := getF X4 hx hZ hown (host := "") (Or.inl (tw hw 10 rfl)) Via.refl e4 Fh (g := (mkF m 47 #[.val (.ref a0), .val (.int (1 : Int32)), .val (.int (1 : Int32)), .val (.int (1 : Int32)), .val (.int (0 : Int32))] [(.ref a0), (.ref a0)])) rfl rfl (hb hby d9_47)
    refine go st5 ?_
    show Run _ _ _ _ _ _ _ T5 (mkF m 50 #[.val (.ref a0), .val (.int (1 : Int32)), .val (.int (1 : Int32)), .val (.int (1 : Int32)), .val (.int (0 : Int32))] [(.ref bh), (.ref a0)])
    refine go (T' := T5) (f' := (mkF m 52 #[.val (.ref a0), .val (.int (1 : Int32)), .val (.int (1 : Int32)), .val (.int (1 : Int32)), .val (.int (0 : Int32))] [(.int (0 : Int32)), (.ref bh), (.ref a0)])) (by intro t k; exact XS.iload X5.here hx rfl (hb hby d9_50) rfl k) ?_
    refine go (T' := T5) (f' := (mkF m 53 #[.val (.ref a0), .val (.int (1 : Int32)), .val (.int (1 : Int32)), .val (.int (1 : Int32)), .val (.int (0 : Int32))] [(.int (0 : Int32)), (.ref a0)])) (by intro t k; exact ldI X5 hx hZ e5 Ah (j := (0 : Int32)) (v := (.int (0 : Int32))) (by decide) rfl (g := (mkF m 52 #[.val (.ref a0), .val (.int (1 : Int32)), .val (.int (1 : Int32)), .val (.int (1 : Int32)), .val (.int (0 : Int32))] [(.int (0 : Int32)), (.ref bh), (.ref a0)])) rfl rfl (hb hby d9_52) _ k) ?_
    refine go (T' := T5) (f' := (mkF m 54 #[.val (.ref a0), .val (.int (1 : Int32)), .val (.int (1 : Int32)), .val (.int (1 : Int32)), .val (.int (0 : Int32))] [(.int (1 : Int32)), (.int (0 : Int32)), (.ref a0)])) (by intro t k; exact XS.iloadN X5.here hx rfl (hb hby d9_53) rfl k) ?_
    obtain ⟨cq6, q6, q6'⟩ := (E).cell
    obtain ⟨_, _, ⟨T6, Lz6, kz6, nz6⟩, -, X6, ⟨Lc6, hQ6, lz6, yz6, zz6⟩, st6⟩ := X5.privateBack hx (y := mmove) hown (mvT hZ (tw hw 53 rfl)) (mvT hZ (tw hw 54 rfl)) (selP (y := mmove) (mvT hZ (tw hw 1 rfl)) (Cond.privateMethod_at (mvP hZ (tw hw 55 rfl) (args := #[]))) (mvT hZ (tw hw 54 rfl)) (by decide)) (Cond.privateMethod_at (mvP hZ (tw hw 55 rfl) (args := #[]))) (mvT hZ (tw hw 56 rfl)) (by decide) (backOf (W := 0) (rm10t30 l Z aw hw [] a0 bh bd bp x0 x1  h0 n0 Z0 ⟨E, Fh, Fd, Fp, Fs, Ft, Ah, Ad, Ap, g0, gh, gd, gp, n0h, n0d, n0p, nhd, nhp, ndp⟩) hZ (tw hw 56 rfl) (tw hw 2 rfl) (by decide) (by decide)) (g := (mkF m 54 #[.val (.ref a0), .val (.int (1 : Int32)), .val (.int (1 : Int32)), .val (.int (1 : Int32)), .val (.int (0 : Int32))] [(.int (1 : Int32)), (.int (0 : Int32)), (.ref a0)])) rfl (by rw [hml]; rfl) (Steps.refl _) (a := a0) (by rw [e5]; exact q6) q6' (argsL := [(.int (0 : Int32)), (.int (1 : Int32))]) (rest := []) (lenOf pd_28II29V rfl) rfl (by show 2 * 0 + _ ≤ _; exact Nat.le_of_eq rfl) (hb hby d9_54) (fun _ _ => ⟨rfl, e5, (by decide : 0 + 0 ≤ _), (by decide : 0 + 0 ≤ _)⟩)
    dsimp only [Pt.U, Pt.locs, Pt.cells, Pt.slots] at X6 lz6 yz6 zz6 st6 hQ6
    subst lz6 yz6 zz6
    obtain ⟨rfl, N6q, K6, hD6⟩ := hQ6
    have E6_a0 := Exa.keep E K6
    have Z6 : n0 ≤ T6.heap.size := Nat.le_trans Z0 K6.1
    have KK6 : Keep h0 T6.heap [a0, bh, bd, bp] := (Keep.refl _ _).trans K6 (allS (Or.inl (List.mem_of_getElem? (i := 0) rfl)) (allS (Or.inl (List.mem_of_getElem? (i := 1) rfl)) (allS (Or.inl (List.mem_of_getElem? (i := 2) rfl)) (allS (Or.inl (List.mem_of_getElem? (i := 3) rfl)) all0))))
    obtain ⟨E6, Fh6, Fd6, Fp6, Fs6, Ft6, Ah6, Ad6, Ap6, g06, gh6, gd6, gp6, n0h6, n0d6, n0p6, nhd6, nhp6, ndp6⟩ := hD6
    have N6 := Fr.app N0 N6q
    refine go (fun _ k => st6.trans k) ?_
    show Run _ _ _ _ _ _ _ T6 (mkF m 57 #[.val (.ref a0), .val (.int (1 : Int32)), .val (.int (1 : Int32)), .val (.int (1 : Int32)), .val (.int (0 : Int32))] [])
    refine go (T' := T6) (f' := (mkF m 59 #[.val (.ref a0), .val (.int (1 : Int32)), .val (.int (1 : Int32)), .val (.int (1 : Int32)), .val (.int (0 : Int32))] [(.int (0 : Int32))])) (by intro t k; exact XS.iload X6.here hx rfl (hb hby d9_57) rfl k) ?_
    refine go (T' := T6) (f' := (mkF m 60 #[.val (.ref a0), .val (.int (1 : Int32)), .val (.int (1 : Int32)), .val (.int (0 : Int32)), .val (.int (0 : Int32))] [])) (by intro t k; exact XS.istoreN X6.here hx rfl (hb hby d9_59) rfl (l' := #[.val (.ref a0), .val (.int (1 : Int32)), .val (.int (1 : Int32)), .val (.int (0 : Int32)), .val (.int (0 : Int32))]) rfl k) ?_
    refine go (T' := T6) (f' := (mkF m 9 #[.val (.ref a0), .val (.int (1 : Int32)), .val (.int (1 : Int32)), .val (.int (0 : Int32)), .val (.int (0 : Int32))] [])) (by intro t k; exact XS.goto X6.here hx rfl (pc0 := 60) (pc' := 9) rfl (hb hby d9_60) (by decide) (by decide) k) ?_
    refine go (T' := T6) (f' := (mkF m 10 #[.val (.ref a0), .val (.int (1 : Int32)), .val (.int (1 : Int32)), .val (.int (0 : Int32)), .val (.int (0 : Int32))] [(.int (0 : Int32))])) (by intro t k; exact XS.iloadN X6.here hx rfl (hb hby d9_9) rfl k) ?_
    refine go (T' := T6) (f' := (mkF m 63 #[.val (.ref a0), .val (.int (1 : Int32)), .val (.int (1 : Int32)), .val (.int (0 : Int32)), .val (.int (0 : Int32))] [])) (by intro t k; exact XS.ifYes X6.here hx rfl (pc0 := 10) (pc' := 63) rfl (hb hby d9_10) rfl ((if0 _ _).trans (flt (by decide : ¬ ((0 : Int32) < (0 : Int32)))).2.2.2) (by decide) (by decide) k) ?_
    refine go (T' := T6) (f' := (mkF m 64 #[.val (.ref a0), .val (.int (1 : Int32)), .val (.int (1 : Int32)), .val (.int (0 : Int32)), .val (.int (0 : Int32))] [(.ref a0)])) (by intro t k; exact XS.aloadN X6.here hx rfl (hb hby d9_63) rfl rfl k) ?_
    refine go (T' := T6) (f' := (mkF m 65 #[.val (.ref a0), .val (.int (1 : Int32)), .val (.int (1 : Int32)), .val (.int (0 : Int32)), .val (.int (0 : Int32))] [(.int (1 : Int32)), (.ref a0)])) (by intro t k; exact XS.iloadN X6.here hx rfl (hb hby d9_64) rfl k) ?_
    refine go (T' := T6) (f' := (mkF m 66 #[.val (.ref a0), .val (.int (1 : Int32)), .val (.int (1 : Int32)), .val (.int (0 : Int32)), .val (.int (0 : Int32))] [(.int (0 : Int32)), (.int (1 : Int32)), (.ref a0)])) (by intro t k; exact XS.iloadN X6.here hx rfl (hb hby d9_65) rfl k) ?_
    obtain ⟨cq7, q7, q7'⟩ := (E6).cell
    obtain ⟨_, _, ⟨T7, Lz7, kz7, nz7⟩, -, X7, ⟨Lc7, hQ7, lz7, yz7, zz7⟩, st7⟩ := X6.privateBack hx (y := mmove) hown (mvT hZ (tw hw 53 rfl)) (mvT hZ (tw hw 54 rfl)) (selP (y := mmove) (mvT hZ (tw hw 1 rfl)) (Cond.privateMethod_at (mvP hZ (tw hw 55 rfl) (args := #[]))) (mvT hZ (tw hw 54 rfl)) (by decide)) (Cond.privateMethod_at (mvP hZ (tw hw 55 rfl) (args := #[]))) (mvT hZ (tw hw 56 rfl)) (by decide) (backOf (W := 0) (rm10t31 l Z aw hw [] a0 bh bd bp x0 x1  T6.heap n0 Z6 ⟨E6, Fh6, Fd6, Fp6, Fs6, Ft6, Ah6, Ad6, Ap6, g06, gh6, gd6, gp6, n0h6, n0d6, n0p6, nhd6, nhp6, ndp6⟩) hZ (tw hw 56 rfl) (tw hw 2 rfl) (by decide) (by decide)) (g := (mkF m 66 #[.val (.ref a0), .val (.int (1 : Int32)), .val (.int (1 : Int32)), .val (.int (0 : Int32)), .val (.int (0 : Int32))] [(.int (0 : Int32)), (.int (1 : Int32)), (.ref a0)])) rfl (by rw [hml]; rfl) (Steps.refl _) (a := a0) q7 q7' (argsL := [(.int (1 : Int32)), (.int (0 : Int32))]) (rest := []) (lenOf pd_28II29V rfl) rfl (by show 2 * 0 + _ ≤ _; exact Nat.le_of_eq rfl) (hb hby d9_66) (fun _ _ => ⟨rfl, rfl, (by decide : 0 + 0 ≤ _), (by decide : 0 + 0 ≤ _)⟩)
    dsimp only [Pt.U, Pt.locs, Pt.cells, Pt.slots] at X7 lz7 yz7 zz7 st7 hQ7
    subst lz7 yz7 zz7
    obtain ⟨rfl, N7q, K7, hD7⟩ := hQ7
    have E7_a0 := Exa.keep E6 K7
    have Z7 : n0 ≤ T7.heap.size := Nat.le_trans Z6 K7.1
    have KK7 : Keep h0 T7.heap [a0, bh, bd, bp] := KK6.trans K7 (allS (Or.inl (List.mem_of_getElem? (i := 0) rfl)) (allS (Or.inl (List.mem_of_getElem? (i := 1) rfl)) (allS (Or.inl (List.mem_of_getElem? (i := 2) rfl)) (allS (Or.inl (List.mem_of_getElem? (i := 3) rfl)) all0))))
    obtain ⟨E7, Fh7, Fd7, Fp7, Fs7, Ft7, Ah7, Ad7, Ap7, g07, gh7, gd7, gp7, n0h7, n0d7, n0p7, nhd7, nhp7, ndp7⟩ := hD7
    have N7 := Fr.app N6 N7q
    refine go (fun _ k => st7.trans k) ?_
    show Run _ _ _ _ _ _ _ T7 (mkF m 69 #[.val (.ref a0), .val (.int (1 : Int32)), .val (.int (1 : Int32)), .val (.int (0 : Int32)), .val (.int (0 : Int32))] [])
    refine retV X7 hx Bd.returns (hb hby d9_69) hlk (by decide) (by decide) ?_
    show Q9t29 Z a0 bh bd bp x0 x1 h0 n0 _ T7.heap _
    exact ⟨rfl, N7, KK7, (Or.inl ⟨E7, Fh7, Fd7, Fp7, Fs7, Ft7, Ah7, Ad7, Ap7, g07, gh7, gd7, gp7, n0h7, n0d7, n0p7, nhd7, nhp7, ndp7⟩)⟩
  · refine go (T' := T4) (f' := (mkF m 42 #[.val (.ref a0), .val (.int (1 : Int32)), .val (.int (1 : Int32)), .val (.int (1 : Int32)), .val (.int (0 : Int32))] [])) (by intro t k; exact XS.ifNo X4.here hx rfl (hb hby d9_39) rfl ((if0 _ _).trans (flt hc39).2.2.1) k) ?_
    refine go (T' := T4) (f' := (mkF m 63 #[.val (.ref a0), .val (.int (1 : Int32)), .val (.int (1 : Int32)), .val (.int (1 : Int32)), .val (.int (0 : Int32))] [])) (by intro t k; exact XS.goto X4.here hx rfl (pc0 := 42) (pc' := 63) rfl (hb hby d9_42) (by decide) (by decide) k) ?_
    refine go (T' := T4) (f' := (mkF m 64 #[.val (.ref a0), .val (.int (1 : Int32)), .val (.int (1 : Int32)), .val (.int (1 : Int32)), .val (.int (0 : Int32))] [(.ref a0)])) (by intro t k; exact XS.aloadN X4.here hx rfl (hb hby d9_63) rfl rfl k) ?_
    refine go (T' := T4) (f' := (mkF m 65 #[.val (.ref a0), .val (.int (1 : Int32)), .val (.int (1 : Int32)), .val (.int (1 : Int32)), .val (.int (0 : Int32))] [(.int (1 : Int32)), (.ref a0)])) (by intro t k; exact XS.iloadN X4.here hx rfl (hb hby d9_64) rfl k) ?_
    refine go (T' := T4) (f' := (mkF m 66 #[.val (.ref a0), .val (.int (1 : Int32)), .val (.int (1 : Int32)), .val (.int (1 : Int32)), .val (.int (0 : Int32))] [(.int (1 : Int32)), (.int (1 : Int32)), (.ref a0)])) (by intro t k; exact XS.iloadN X4.here hx rfl (hb hby d9_65) rfl k) ?_
    obtain ⟨cq8, q8, q8'⟩ := (E).cell
    obtain ⟨_, _, ⟨T8, Lz8, kz8, nz8⟩, -, X8, ⟨Lc8, hQ8, lz8, yz8, zz8⟩, st8⟩ := X4.privateBack hx (y := mmove) hown (mvT hZ (tw hw 53 rfl)) (mvT hZ (tw hw 54 rfl)) (selP (y := mmove) (mvT hZ (tw hw 1 rfl)) (Cond.privateMethod_at (mvP hZ (tw hw 55 rfl) (args := #[]))) (mvT hZ (tw hw 54 rfl)) (by decide)) (Cond.privateMethod_at (mvP hZ (tw hw 55 rfl) (args := #[]))) (mvT hZ (tw hw 56 rfl)) (by decide) (backOf (W := 0) (rm10t32 l Z aw hw [] a0 bh bd bp x0 x1  h0 n0 Z0 ⟨E, Fh, Fd, Fp, Fs, Ft, Ah, Ad, Ap, g0, gh, gd, gp, n0h, n0d, n0p, nhd, nhp, ndp⟩) hZ (tw hw 56 rfl) (tw hw 2 rfl) (by decide) (by decide)) (g := (mkF m 66 #[.val (.ref a0), .val (.int (1 : Int32)), .val (.int (1 : Int32)), .val (.int (1 : Int32)), .val (.int (0 : Int32))] [(.int (1 : Int32)), (.int (1 : Int32)), (.ref a0)])) rfl (by rw [hml]; rfl) (Steps.refl _) (a := a0) (by rw [e4]; exact q8) q8' (argsL := [(.int (1 : Int32)), (.int (1 : Int32))]) (rest := []) (lenOf pd_28II29V rfl) rfl (by show 2 * 0 + _ ≤ _; exact Nat.le_of_eq rfl) (hb hby d9_66) (fun _ _ => ⟨rfl, e4, (by decide : 0 + 0 ≤ _), (by decide : 0 + 0 ≤ _)⟩)
    dsimp only [Pt.U, Pt.locs, Pt.cells, Pt.slots] at X8 lz8 yz8 zz8 st8 hQ8
    subst lz8 yz8 zz8
    obtain ⟨rfl, N8q, K8, hD8⟩ := hQ8
    have E8_a0 := Exa.keep E K8
    have Z8 : n0 ≤ T8.heap.size := Nat.le_trans Z0 K8.1
    have KK8 : Keep h0 T8.heap [a0, bh, bd, bp] := (Keep.refl _ _).trans K8 (allS (Or.inl (List.mem_of_getElem? (i := 0) rfl)) (allS (Or.inl (List.mem_of_getElem? (i := 1) rfl)) (allS (Or.inl (List.mem_of_getElem? (i := 2) rfl)) (allS (Or.inl (List.mem_of_getElem? (i := 3) rfl)) all0))))
    obtain ⟨E8, Fh8, Fd8, Fp8, Fs8, Ft8, Ah8, Ad8, Ap8, g08, gh8, gd8, gp8, n0h8, n0d8, n0p8, nhd8, nhp8, ndp8⟩ := hD8
    have N8 := Fr.app N0 N8q
    refine go (fun _ k => st8.trans k) ?_
    show Run _ _ _ _ _ _ _ T8 (mkF m 69 #[.val (.ref a0), .val (.int (1 : Int32)), .val (.int (1 : Int32)), .val (.int (1 : Int32)), .val (.int (0 : Int32))] [])
    refine retV X8 hx Bd.returns (hb hby d9_69) hlk (by decide) (by decide) ?_
    show Q9t29 Z a0 bh bd bp x0 x1 h0 n0 _ T8.heap _
    exact ⟨rfl, N8, KK8, (Or.inr ⟨E8, Fh8, Fd8, Fp8, Fs8, Ft8, Ah8, Ad8, Ap8, g08, gh8, gd8, gp8, n0h8, n0d8, n0p8, nhd8, nhp8, ndp8⟩)⟩
theorem ef_8t28 (m : MethodId) (x0 : Addr) (x2 : UInt64) : entryFrame m #[(.ref x0), (.int (1 : Int32)), (.double x2)] 5 = mkF m 0 #[.val (.ref x0), .val (.int (1 : Int32)), .val (.double x2), .second, .unset] [] := by first | (simp [entryFrame, mkF, argsToLocals, Value.category]; done) | rfl
def Q8t28 (Z : State) (a0 : Addr) (d2 : UInt64) (bh bd bp : Addr) (x0 x1 : UInt64) (h0 : Heap) (n0 : Nat) (v : Option Value) (h : Heap) (L : List Loc) : Prop := v = none ∧ Fr n0 L ∧ Keep h0 h [a0, bh, bd, bp] ∧ (own_st Z n0 h a0 bh bd bp (1 : Int32) (0 : Int32) (1 : Int32) (0 : Int32) (2 : Int32) (0 : Int32) x0 d2 ∨ own_st Z n0 h a0 bh bd bp (0 : Int32) (1 : Int32) (0 : Int32) (1 : Int32) (2 : Int32) (0 : Int32) x0 d2)
set_option maxRecDepth 65536 in
set_option maxHeartbeats 40000000 in
theorem rm8t28 (l : Launch) (Z : State) (aw : Array Value) (hw : ∀ d ∈ tables_1, d.before aw Z = true) (ws : List Jvm.Cond) (a0 : Addr) (d2 : UInt64) (bh bd bp : Addr) (x0 x1 : UInt64) (h0 : Heap) (n0 : Nat) (Z0 : n0 ≤ h0.size) (St : own_st Z n0 h0 a0 bh bd bp (0 : Int32) (0 : Int32) (0 : Int32) (-1 : Int32) (1 : Int32) (0 : Int32) x0 x1) :
    MetFree l moffer (head1 (Jvm.Cond.code moffer prog_64_method_5_code 5 none :: ws) rO3) (fun a U => a = #[(.ref a0), (.int (1 : Int32)), (.double d2)] ∧ Z.Warmed39 U.vm ∧ U.heap = h0) (fun _ _ _ _ _ => True) (fun _ U o U' => ∃ v L, o = .returned v ∧ Q8t28 Z a0 d2 bh bd bp x0 x1 h0 n0 v U'.heap L ∧ FrameEnd U o U' L rO3.cells rO3.slots) := by
  refine MetFree.of_bodySF (plainFor_of_name pn_1) hisR ?_
  intro p e s m args below meth c s₁ Bd hml0 hP hK
  obtain ⟨rfl, hZ, hh⟩ := hP
  have hx := Bd.exec
  have hby := Bd.bytes
  have hml : c.maxLocals = 5 := hml0
  have hown : s.vm.findClass "com/example/wayshard/wayshard/service/VertexQueue" = some m.cls := findClass_of_methodNamed Bd.named
  have hnm := (name_of_methodNamed Bd.named Bd.method).1
  have hlk : meth.locks = false := BodyLoose.notSynchronized Bd
  have X0 : Stand p l e rO3 s m #[(.ref a0), (.int (1 : Int32)), (.double d2)] below meth c s₁ [] 0 0 := Stand.of_body Bd
  have e0 : s₁.heap = h0 := by rw [← hh, Bd.state]; rfl
  have N0 := Fr.nil n0
  show Run p e s below (Q8t28 Z a0 d2 bh bd bp x0 x1 h0 n0) rO3.cells rO3.slots s₁ (entryFrame m #[(.ref a0), (.int (1 : Int32)), (.double d2)] 5)
  rw [ef_8t28]
  obtain ⟨E, Fh, Fd, Fp, Fs, Ft, Ah, Ad, Ap, g0, gh, gd, gp, n0h, n0d, n0p, nhd, nhp, ndp⟩ := St
  show Run _ _ _ _ _ _ _ s₁ (mkF m 0 #[.val (.ref a0), .val (.int (1 : Int32)), .val (.double d2), .second, .unset] [])
  refine go (T' := s₁) (f' := (mkF m 1 #[.val (.ref a0), .val (.int (1 : Int32)), .val (.double d2), .second, .unset] [(.ref a0)])) (by intro t k; exact XS.aloadN X0.here hx rfl (hb hby d8_0) rfl rfl k) ?_
  obtain ⟨T1, X1, e1, st1⟩ := getF X0 hx hZ hown (host := "") (Or.inl (tw hw 15 rfl)) Via.refl e0 Fp (g := (mkF m 1 #[.val (.ref a0), .val (.int (1 : Int32)), .val (.double d2), .second, .unset] [(.ref a0)])) rfl rfl (hb hby d8_1)
  refine go st1 ?_
  show Run _ _ _ _ _ _ _ T1 (mkF m 4 #[.val (.ref a0), .val (.int (1 : Int32)), .val (.double d2), .second, .unset] [(.ref bp)])
  refine go (T' := T1) (f' := (mkF m 5 #[.val (.ref a0), .val (.int (1 : Int32)), .val (.double d2), .second, .unset] [(.int (1 : Int32)), (.ref bp)])) (by intro t k; exact XS.iloadN X1.here hx rfl (hb hby d8_4) rfl k) ?_
  refine go (T' := T1) (f' := (mkF m 6 #[.val (.ref a0), .val (.int (1 : Int32)), .val (.double d2), .second, .unset] [(.int (-1 : Int32))])) (by intro t k; exact ldI X1 hx hZ e1 Ap (j := (1 : Int32)) (v := (.int (-1 : Int32))) (by decide) rfl (g := (mkF m 5 #[.val (.ref a0), .val (.int (1 : Int32)), .val (.double d2), .second, .unset] [(.int (1 : Int32)), (.ref bp)])) rfl rfl (hb hby d8_5) _ k) ?_
  refine go (T' := T1) (f' := (mkF m 8 #[.val (.ref a0), .val (.int (1 : Int32)), .val (.double d2), .second, .val (.int (-1 : Int32))] [])) (by intro t k; exact XS.istore X1.here hx rfl (hb hby d8_6) rfl (l' := #[.val (.ref a0), .val (.int (1 : Int32)), .val (.double d2), .second, .val (.int (-1 : Int32))]) rfl k) ?_
  refine go (T' := T1) (f' := (mkF m 9 #[.val (.ref a0), .val (.int (1 : Int32)), .val (.double d2), .second, .val (.int (-1 : Int32))] [(.ref a0)])) (by intro t k; exact XS.aloadN X1.here hx rfl (hb hby d8_8) rfl rfl k) ?_
  obtain ⟨T2, X2, e2, st2⟩ := getF X1 hx hZ hown (host := "") (Or.inl (tw hw 13 rfl)) Via.refl e1 Fd (g := (mkF m 9 #[.val (.ref a0), .val (.int (1 : Int32)), .val (.double d2), .second, .val (.int (-1 : Int32))] [(.ref a0)])) rfl rfl (hb hby d8_9)
  refine go st2 ?_
  show Run _ _ _ _ _ _ _ T2 (mkF m 12 #[.val (.ref a0), .val (.int (1 : Int32)), .val (.double d2), .second, .val (.int (-1 : Int32))] [(.ref bd)])
  refine go (T' := T2) (f' := (mkF m 13 #[.val (.ref a0), .val (.int (1 : Int32)), .val (.double d2), .second, .val (.int (-1 : Int32))] [(.int (1 : Int32)), (.ref bd)])) (by intro t k; exact XS.iloadN X2.here hx rfl (hb hby d8_12) rfl k) ?_
  refine go (T' := T2) (f' := (mkF m 14 #[.val (.ref a0), .val (.int (1 : Int32)), .val (.double d2), .second, .val (.int (-1 : Int32))] [(.double d2), (.int (1 : Int32)), (.ref bd)])) (by intro t k; exact XS.dloadN X2.here hx rfl (hb hby d8_13) rfl k) ?_
  obtain ⟨cl3, Ar3, hin3⟩ := Ary.st (j := (1 : Int32)) Ad (by decide) (by show (1 : Int32).toNatClampNeg < 2; decide)
  obtain ⟨T3, h3, X3, e3, W3, st3⟩ := stD X2 hx hZ e2 Ar3 (j := (1 : Int32)) hin3 (g := (mkF m 14 #[.val (.ref a0), .val (.int (1 : Int32)), .val (.double d2), .second, .val (.int (-1 : Int32))] [(.double d2), (.int (1 : Int32)), (.ref bd)])) rfl rfl (hb hby d8_14)
  have K3 : Keep h0 h3 [bd] := Keep.of_wr W3
  have V3 : Ary Z h3 bd .double [(.double x0), (.double d2)] := Ary.set Ad W3 rfl
  have N3 := Fr.snoc X3 N0 gd
  have E3_a0 := Exa.keep E K3
  have F3_a0_heap := Fld.keep Fh K3 (ninS n0d nin0)
  have F3_a0_priorities := Fld.keep Fd K3 (ninS n0d nin0)
  have F3_a0_places := Fld.keep Fp K3 (ninS n0d nin0)
  have F3_a0_size := Fld.keep Fs K3 (ninS n0d nin0)
  have F3_a0_taken := Fld.keep Ft K3 (ninS n0d nin0)
  have A3_bh := Ary.keep Ah K3 (ninS nhd nin0)
  have A3_bp := Ary.keep Ap K3 (ninS (Ne.symm ndp) nin0)
  have Z3 : n0 ≤ h3.size := Nat.le_trans Z0 K3.1
  have KK3 : Keep h0 h3 [a0, bh, bd, bp] := (Keep.refl _ _).trans K3 (allS (Or.inl (List.mem_of_getElem? (i := 2) rfl)) all0)
  refine go st3 ?_
  show Run _ _ _ _ _ _ _ T3 (mkF m 15 #[.val (.ref a0), .val (.int (1 : Int32)), .val (.double d2), .second, .val (.int (-1 : Int32))] [])
  refine go (T' := T3) (f' := (mkF m 17 #[.val (.ref a0), .val (.int (1 : Int32)), .val (.double d2), .second, .val (.int (-1 : Int32))] [(.int (-1 : Int32))])) (by intro t k; exact XS.iload X3.here hx rfl (hb hby d8_15) rfl k) ?_
  refine go (T' := T3) (f' := (mkF m 18 #[.val (.ref a0), .val (.int (1 : Int32)), .val (.double d2), .second, .val (.int (-1 : Int32))] [(.int (-1 : Int32)), (.int (-1 : Int32))])) (by intro t k; exact XS.iconst X3.here hx rfl (hb hby d8_17) k) ?_
  refine go (T' := T3) (f' := (mkF m 21 #[.val (.ref a0), .val (.int (1 : Int32)), .val (.double d2), .second, .val (.int (-1 : Int32))] [])) (by intro t k; exact XS.icmpNo X3.here hx rfl (hb hby d8_18) rfl (teq (rfl : (-1 : Int32) = (-1 : Int32))).2 k) ?_
  refine go (T' := T3) (f' := (mkF m 22 #[.val (.ref a0), .val (.int (1 : Int32)), .val (.double d2), .second, .val (.int (-1 : Int32))] [(.ref a0)])) (by intro t k; exact XS.aloadN X3.here hx rfl (hb hby d8_21) rfl rfl k) ?_
  obtain ⟨T4, X4, e4, st4⟩ := getF X3 hx hZ hown (host := "") (Or.inl (tw hw 10 rfl)) Via.refl e3 F3_a0_heap (g := (mkF m 22 #[.val (.ref a0), .val (.int (1 : Int32)), .val (.double d2), .second, .val (.int (-1 : Int32))] [(.ref a0)])) rfl rfl (hb hby d8_22)
  refine go st4 ?_
  show Run _ _ _ _ _ _ _ T4 (mkF m 25 #[.val (.ref a0), .val (.int (1 : Int32)), .val (.double d2), .second, .val (.int (-1 : Int32))] [(.ref bh)])
  refine go (T' := T4) (f' := (mkF m 26 #[.val (.ref a0), .val (.int (1 : Int32)), .val (.double d2), .second, .val (.int (-1 : Int32))] [(.ref a0), (.ref bh)])) (by intro t k; exact XS.aloadN X4.here hx rfl (hb hby d8_25) rfl rfl k) ?_
  obtain ⟨T5, X5, e5, st5⟩ := getF X4 hx hZ hown (host := "") (Or.inl (tw hw 30 rfl)) Via.refl e4 F3_a0_size (g := (mkF m 26 #[.val (.ref a0), .val (.int (1 : Int32)), .val (.double d2), .second, .val (.int (-1 : Int32))] [(.ref a0), (.ref bh)])) rfl rfl (hb hby d8_26)
  refine go st5 ?_
  show Run _ _ _ _ _ _ _ T5 (mkF m 29 #[.val (.ref a0), .val (.int (1 : Int32)), .val (.double d2), .second, .val (.int (-1 : Int32))] [(.int (1 : Int32)), (.ref bh)])
  refine go (T' := T5) (f' := (mkF m 30 #[.val (.ref a0), .val (.int (1 : Int32)), .val (.double d2), .second, .val (.int (-1 : Int32))] [(.int (1 : Int32)), (.int (1 : Int32)), (.ref bh)])) (by intro t k; exact XS.iloadN X5.here hx rfl (hb hby d8_29) rfl k) ?_
  obtain ⟨cl6, Ar6, hin6⟩ := Ary.st (j := (1 : Int32)) A3_bh (by decide) (by show (1 : Int32).toNatClampNeg < 2; decide)
  obtain ⟨T6, h6, X6, e6, W6, st6⟩ := stI X5 hx hZ e5 Ar6 (j := (1 : Int32)) hin6 (g := (mkF m 30 #[.val (.ref a0), .val (.int (1 : Int32)), .val (.double d2), .second, .val (.int (-1 : Int32))] [(.int (1 : Int32)), (.int (1 : Int32)), (.ref bh)])) rfl rfl (hb hby d8_30)
  have K6 : Keep h3 h6 [bh] := Keep.of_wr W6
  have V6 : Ary Z h6 bh .int [(.int (0 : Int32)), (.int (1 : Int32))] := Ary.set A3_bh W6 rfl
  have N6 := Fr.snoc X6 N3 gh
  have E6_a0 := Exa.keep E3_a0 K6
  have F6_a0_heap := Fld.keep F3_a0_heap K6 (ninS n0h nin0)
  have F6_a0_priorities := Fld.keep F3_a0_priorities K6 (ninS n0h nin0)
  have F6_a0_places := Fld.keep F3_a0_places K6 (ninS n0h nin0)
  have F6_a0_size := Fld.keep F3_a0_size K6 (ninS n0h nin0)
  have F6_a0_taken := Fld.keep F3_a0_taken K6 (ninS n0h nin0)
  have A6_bd := Ary.keep V3 K6 (ninS (Ne.symm nhd) nin0)
  have A6_bp := Ary.keep A3_bp K6 (ninS (Ne.symm nhp) nin0)
  have Z6 : n0 ≤ h6.size := Nat.le_trans Z3 K6.1
  have KK6 : Keep h0 h6 [a0, bh, bd, bp] := KK3.trans K6 (allS (Or.inl (List.mem_of_getElem? (i := 1) rfl)) all0)
  refine go st6 ?_
  show Run _ _ _ _ _ _ _ T6 (mkF m 31 #[.val (.ref a0), .val (.int (1 : Int32)), .val (.double d2), .second, .val (.int (-1 : Int32))] [])
  refine go (T' := T6) (f' := (mkF m 32 #[.val (.ref a0), .val (.int (1 : Int32)), .val (.double d2), .second, .val (.int (-1 : Int32))] [(.ref a0)])) (by intro t k; exact XS.aloadN X6.here hx rfl (hb hby d8_31) rfl rfl k) ?_
  obtain ⟨T7, X7, e7, st7⟩ := getF X6 hx hZ hown (host := "") (Or.inl (tw hw 15 rfl)) Via.refl e6 F6_a0_places (g := (mkF m 32 #[.val (.ref a0), .val (.int (1 : Int32)), .val (.double d2), .second, .val (.int (-1 : Int32))] [(.ref a0)])) rfl rfl (hb hby d8_32)
  refine go st7 ?_
  show Run _ _ _ _ _ _ _ T7 (mkF m 35 #[.val (.ref a0), .val (.int (1 : Int32)), .val (.double d2), .second, .val (.int (-1 : Int32))] [(.ref bp)])
  refine go (T' := T7) (f' := (mkF m 36 #[.val (.ref a0), .val (.int (1 : Int32)), .val (.double d2), .second, .val (.int (-1 : Int32))] [(.int (1 : Int32)), (.ref bp)])) (by intro t k; exact XS.iloadN X7.here hx rfl (hb hby d8_35) rfl k) ?_
  refine go (T' := T7) (f' := (mkF m 37 #[.val (.ref a0), .val (.int (1 : Int32)), .val (.double d2), .second, .val (.int (-1 : Int32))] [(.ref a0), (.int (1 : Int32)), (.ref bp)])) (by intro t k; exact XS.aloadN X7.here hx rfl (hb hby d8_36) rfl rfl k) ?_
  obtain ⟨T8, X8, e8, st8⟩ := getF X7 hx hZ hown (host := "") (Or.inl (tw hw 30 rfl)) Via.refl e7 F6_a0_size (g := (mkF m 37 #[.val (.ref a0), .val (.int (1 : Int32)), .val (.double d2), .second, .val (.int (-1 : Int32))] [(.ref a0), (.int (1 : Int32)), (.ref bp)])) rfl rfl (hb hby d8_37)
  refine go st8 ?_
  show Run _ _ _ _ _ _ _ T8 (mkF m 40 #[.val (.ref a0), .val (.int (1 : Int32)), .val (.double d2), .second, .val (.int (-1 : Int32))] [(.int (1 : Int32)), (.int (1 : Int32)), (.ref bp)])
  obtain ⟨cl9, Ar9, hin9⟩ := Ary.st (j := (1 : Int32)) A6_bp (by decide) (by show (1 : Int32).toNatClampNeg < 2; decide)
  obtain ⟨T9, h9, X9, e9, W9, st9⟩ := stI X8 hx hZ e8 Ar9 (j := (1 : Int32)) hin9 (g := (mkF m 40 #[.val (.ref a0), .val (.int (1 : Int32)), .val (.double d2), .second, .val (.int (-1 : Int32))] [(.int (1 : Int32)), (.int (1 : Int32)), (.ref bp)])) rfl rfl (hb hby d8_40)
  have K9 : Keep h6 h9 [bp] := Keep.of_wr W9
  have V9 : Ary Z h9 bp .int [(.int (0 : Int32)), (.int (1 : Int32))] := Ary.set A6_bp W9 rfl
  have N9 := Fr.snoc X9 N6 gp
  have E9_a0 := Exa.keep E6_a0 K9
  have F9_a0_heap := Fld.keep F6_a0_heap K9 (ninS n0p nin0)
  have F9_a0_priorities := Fld.keep F6_a0_priorities K9 (ninS n0p nin0)
  have F9_a0_places := Fld.keep F6_a0_places K9 (ninS n0p nin0)
  have F9_a0_size := Fld.keep F6_a0_size K9 (ninS n0p nin0)
  have F9_a0_taken := Fld.keep F6_a0_taken K9 (ninS n0p nin0)
  have A9_bh := Ary.keep V6 K9 (ninS nhp nin0)
  have A9_bd := Ary.keep A6_bd K9 (ninS ndp nin0)
  have Z9 : n0 ≤ h9.size := Nat.le_trans Z6 K9.1
  have KK9 : Keep h0 h9 [a0, bh, bd, bp] := KK6.trans K9 (allS (Or.inl (List.mem_of_getElem? (i := 3) rfl)) all0)
  refine go st9 ?_
  show Run _ _ _ _ _ _ _ T9 (mkF m 41 #[.val (.ref a0), .val (.int (1 : Int32)), .val (.double d2), .second, .val (.int (-1 : Int32))] [])
  refine go (T' := T9) (f' := (mkF m 42 #[.val (.ref a0), .val (.int (1 : Int32)), .val (.double d2), .second, .val (.int (-1 : Int32))] [(.ref a0)])) (by intro t k; exact XS.aloadN X9.here hx rfl (hb hby d8_41) rfl rfl k) ?_
  refine go (T' := T9) (f' := (mkF m 43 #[.val (.ref a0), .val (.int (1 : Int32)), .val (.double d2), .second, .val (.int (-1 : Int32))] [(.ref a0), (.ref a0)])) (by intro t k; exact XS.aloadN X9.here hx rfl (hb hby d8_42) rfl rfl k) ?_
  refine go (T' := T9) (f' := (mkF m 44 #[.val (.ref a0), .val (.int (1 : Int32)), .val (.double d2), .second, .val (.int (-1 : Int32))] [(.ref a0), (.ref a0), (.ref a0)])) (by intro t k; exact XS.dup X9.here hx rfl (hb hby d8_43) rfl rfl k) ?_
  obtain ⟨T10, X10, e10, st10⟩ := getF X9 hx hZ hown (host := "") (Or.inl (tw hw 30 rfl)) Via.refl e9 F9_a0_size (g := (mkF m 44 #[.val (.ref a0), .val (.int (1 : Int32)), .val (.double d2), .second, .val (.int (-1 : Int32))] [(.ref a0), (.ref a0), (.ref a0)])) rfl rfl (hb hby d8_44)
  refine go st10 ?_
  show Run _ _ _ _ _ _ _ T10 (mkF m 47 #[.val (.ref a0), .val (.int (1 : Int32)), .val (.double d2), .second, .val (.int (-1 : Int32))] [(.int (1 : Int32)), (.ref a0), (.ref a0)])
  refine go (T' := T10) (f' := (mkF m 48 #[.val (.ref a0), .val (.int (1 : Int32)), .val (.double d2), .second, .val (.int (-1 : Int32))] [(.int (1 : Int32)), (.ref a0), (.int (1 : Int32)), (.ref a0)])) (by intro t k; exact XS.dupX1 X10.here hx rfl (hb hby d8_47) rfl rfl rfl k) ?_
  refine go (T' := T10) (f' := (mkF m 49 #[.val (.ref a0), .val (.int (1 : Int32)), .val (.double d2), .second, .val (.int (-1 : Int32))] [(.int (1 : Int32)), (.int (1 : Int32)), (.ref a0), (.int (1 : Int32)), (.ref a0)])) (by intro t k; exact XS.iconst X10.here hx rfl (hb hby d8_48) k) ?_
  refine go (T' := T10) (f' := (mkF m 50 #[.val (.ref a0), .val (.int (1 : Int32)), .val (.double d2), .second, .val (.int (-1 : Int32))] [(.int (2 : Int32)), (.ref a0), (.int (1 : Int32)), (.ref a0)])) (by intro t k; exact XS.iadd X10.here hx rfl (hb hby d8_49) rfl k) ?_
  obtain ⟨T11, h11, X11, e11, W11, st11⟩ := putF X10 hx hZ hown (host := "") (Or.inl (tw hw 30 rfl)) Via.refl e10 F9_a0_size E9_a0 (Or.inl (tw hw 31 rfl)) (tw hw 1 rfl) (ty := .int) (by decide) rfl rfl (g := (mkF m 50 #[.val (.ref a0), .val (.int (1 : Int32)), .val (.double d2), .second, .val (.int (-1 : Int32))] [(.int (2 : Int32)), (.ref a0), (.int (1 : Int32)), (.ref a0)])) rfl rfl (hb hby d8_50)
  have K11 : Keep h9 h11 [a0] := Keep.of_wr W11
  have F11_a0_heap := Fld.other W11 F9_a0_heap (Or.inr (slot_ne (Or.inr (tw hw 11 rfl)) (Or.inl (tw hw 31 rfl)) (by decide) (t := (.array .int)) (t' := .int) (by decide) (by decide)))
  have F11_a0_priorities := Fld.other W11 F9_a0_priorities (Or.inr (slot_ne (Or.inr (tw hw 14 rfl)) (Or.inl (tw hw 31 rfl)) (by decide) (t := (.array .double)) (t' := .int) (by decide) (by decide)))
  have F11_a0_places := Fld.other W11 F9_a0_places (Or.inr (slot_ne (Or.inr (tw hw 16 rfl)) (Or.inl (tw hw 31 rfl)) (by decide) (t := (.array .int)) (t' := .int) (by decide) (by decide)))
  have F11_a0_size : Fld Z h11 a0 "com/example/wayshard/wayshard/service/VertexQueue" "size" "I" (.int (2 : Int32)) := F9_a0_size.same W11
  have F11_a0_taken := Fld.other W11 F9_a0_taken (Or.inr (slot_ne (Or.inl (tw hw 33 rfl)) (Or.inl (tw hw 31 rfl)) (by decide) (t := .int) (t' := .int) (by decide) (by decide)))
  have N11 := Fr.snoc X11 N9 g0
  have E11_a0 := Exa.keep E9_a0 K11
  have A11_bh := Ary.keep A9_bh K11 (ninS (Ne.symm n0h) nin0)
  have A11_bd := Ary.keep A9_bd K11 (ninS (Ne.symm n0d) nin0)
  have A11_bp := Ary.keep V9 K11 (ninS (Ne.symm n0p) nin0)
  have Z11 : n0 ≤ h11.size := Nat.le_trans Z9 K11.1
  have KK11 : Keep h0 h11 [a0, bh, bd, bp] := KK9.trans K11 (allS (Or.inl (List.mem_of_getElem? (i := 0) rfl)) all0)
  refine go st11 ?_
  show Run _ _ _ _ _ _ _ T11 (mkF m 53 #[.val (.ref a0), .val (.int (1 : Int32)), .val (.double d2), .second, .val (.int (-1 : Int32))] [(.int (1 : Int32)), (.ref a0)])
  obtain ⟨cq12, q12, q12'⟩ := (E11_a0).cell
  obtain ⟨_, _, ⟨T12, Lz12, kz12, nz12⟩, -, X12, ⟨Lc12, hQ12, lz12, yz12, zz12⟩, st12⟩ := X11.privateBack hx (y := msiftUp) hown (mvT hZ (tw hw 49 rfl)) (mvT hZ (tw hw 50 rfl)) (selP (y := msiftUp) (mvT hZ (tw hw 1 rfl)) (Cond.privateMethod_at (mvP hZ (tw hw 51 rfl) (args := #[]))) (mvT hZ (tw hw 50 rfl)) (by decide)) (Cond.privateMethod_at (mvP hZ (tw hw 51 rfl) (args := #[]))) (mvT hZ (tw hw 52 rfl)) (by decide) (backOf (W := 0) (rm9t29 l Z aw hw [] a0 bh bd bp x0 d2  h11 n0 Z11 ⟨E11_a0, F11_a0_heap, F11_a0_priorities, F11_a0_places, F11_a0_size, F11_a0_taken, A11_bh, A11_bd, A11_bp, g0, gh, gd, gp, n0h, n0d, n0p, nhd, nhp, ndp⟩) hZ (tw hw 52 rfl) (tw hw 2 rfl) (by decide) (by decide)) (g := (mkF m 53 #[.val (.ref a0), .val (.int (1 : Int32)), .val (.double d2), .second, .val (.int (-1 : Int32))] [(.int (1 : Int32)), (.ref a0)])) rfl (by rw [hml]; rfl) (Steps.refl _) (a := a0) (by rw [e11]; exact q12) q12' (argsL := [(.int (1 : Int32))]) (rest := []) (lenOf pd_28I29V rfl) rfl (by show 2 * 0 + _ ≤ _; exact Nat.le_of_eq rfl) (hb hby d8_53) (fun _ _ => ⟨rfl, e11, (by decide : 0 + 0 ≤ _), (by decide : 0 + 0 ≤ _)⟩)
  dsimp only [Pt.U, Pt.locs, Pt.cells, Pt.slots] at X12 lz12 yz12 zz12 st12 hQ12
  subst lz12 yz12 zz12
  obtain ⟨rfl, N12q, K12, hD12⟩ := hQ12
  have E12_a0 := Exa.keep E11_a0 K12
  have Z12 : n0 ≤ T12.heap.size := Nat.le_trans Z11 K12.1
  have KK12 : Keep h0 T12.heap [a0, bh, bd, bp] := KK11.trans K12 (allS (Or.inl (List.mem_of_getElem? (i := 0) rfl)) (allS (Or.inl (List.mem_of_getElem? (i := 1) rfl)) (allS (Or.inl (List.mem_of_getElem? (i := 2) rfl)) (allS (Or.inl (List.mem_of_getElem? (i := 3) rfl)) all0))))
  have N12 := Fr.app N11 N12q
  refine go (fun _ k => st12.trans k) ?_
  rcases hD12 with hD12 | hD12
  · obtain ⟨E12, Fh12, Fd12, Fp12, Fs12, Ft12, Ah12, Ad12, Ap12, g012, gh12, gd12, gp12, n0h12, n0d12, n0p12, nhd12, nhp12, ndp12⟩ := hD12
    show Run _ _ _ _ _ _ _ T12 (mkF m 56 #[.val (.ref a0), .val (.int (1 : Int32)), .val (.double d2), .second, .val (.int (-1 : Int32))] [])
    refine go (T' := T12) (f' := (mkF m 65 #[.val (.ref a0), .val (.int (1 : Int32)), .val (.double d2), .second, .val (.int (-1 : Int32))] [])) (by intro t k; exact XS.goto X12.here hx rfl (pc0 := 56) (pc' := 65) rfl (hb hby d8_56) (by decide) (by decide) k) ?_
    refine retV X12 hx Bd.returns (hb hby d8_65) hlk (by decide) (by decide) ?_
    show Q8t28 Z a0 d2 bh bd bp x0 x1 h0 n0 _ T12.heap _
    exact ⟨rfl, N12, KK12, (Or.inl ⟨E12, Fh12, Fd12, Fp12, Fs12, Ft12, Ah12, Ad12, Ap12, g012, gh12, gd12, gp12, n0h12, n0d12, n0p12, nhd12, nhp12, ndp12⟩)⟩
  · obtain ⟨E12, Fh12, Fd12, Fp12, Fs12, Ft12, Ah12, Ad12, Ap12, g012, gh12, gd12, gp12, n0h12, n0d12, n0p12, nhd12, nhp12, ndp12⟩ := hD12
    show Run _ _ _ _ _ _ _ T12 (mkF m 56 #[.val (.ref a0), .val (.int (1 : Int32)), .val (.double d2), .second, .val (.int (-1 : Int32))] [])
    refine go (T' := T12) (f' := (mkF m 65 #[.val (.ref a0), .val (.int (1 : Int32)), .val (.double d2), .second, .val (.int (-1 : Int32))] [])) (by intro t k; exact XS.goto X12.here hx rfl (pc0 := 56) (pc' := 65) rfl (hb hby d8_56) (by decide) (by decide) k) ?_
    refine retV X12 hx Bd.returns (hb hby d8_65) hlk (by decide) (by decide) ?_
    show Q8t28 Z a0 d2 bh bd bp x0 x1 h0 n0 _ T12.heap _
    exact ⟨rfl, N12, KK12, (Or.inr ⟨E12, Fh12, Fd12, Fp12, Fs12, Ft12, Ah12, Ad12, Ap12, g012, gh12, gd12, gp12, n0h12, n0d12, n0p12, nhd12, nhp12, ndp12⟩)⟩
theorem ef_5t33 (m : MethodId) (x0 : Addr) : entryFrame m #[(.ref x0)] 2 = mkF m 0 #[.val (.ref x0), .unset] [] := by first | (simp [entryFrame, mkF, argsToLocals, Value.category]; done) | rfl
def Q5t33 (Z : State) (a0 : Addr) (bh bd bp : Addr) (x0 x1 : UInt64) (h0 : Heap) (n0 : Nat) (v : Option Value) (h : Heap) (L : List Loc) : Prop := v = none ∧ Fr n0 L ∧ Keep h0 h [a0, bh, bd, bp] ∧ own_st Z n0 h a0 bh bd bp (1 : Int32) (0 : Int32) (-1 : Int32) (-1 : Int32) (0 : Int32) (0 : Int32) x0 x1
set_option maxRecDepth 65536 in
set_option maxHeartbeats 40000000 in
theorem rm5t33 (l : Launch) (Z : State) (aw : Array Value) (hw : ∀ d ∈ tables_1, d.before aw Z = true) (ws : List Jvm.Cond) (a0 : Addr) (bh bd bp : Addr) (x0 x1 : UInt64) (h0 : Heap) (n0 : Nat) (Z0 : n0 ≤ h0.size) (St : own_st Z n0 h0 a0 bh bd bp (1 : Int32) (0 : Int32) (1 : Int32) (0 : Int32) (2 : Int32) (0 : Int32) x0 x1) :
    MetFree l mclear (head1 (Jvm.Cond.code mclear prog_64_method_3_code 2 none :: ws) rO0) (fun a U => a = #[(.ref a0)] ∧ Z.Warmed39 U.vm ∧ U.heap = h0) (fun _ _ _ _ _ => True) (fun _ U o U' => ∃ v L, o = .returned v ∧ Q5t33 Z a0 bh bd bp x0 x1 h0 n0 v U'.heap L ∧ FrameEnd U o U' L rO0.cells rO0.slots) := by
  refine MetFree.of_bodySF (plainFor_of_name pn_1) hisR ?_
  intro p e s m args below meth c s₁ Bd hml0 hP hK
  obtain ⟨rfl, hZ, hh⟩ := hP
  have hx := Bd.exec
  have hby := Bd.bytes
  have hml : c.maxLocals = 2 := hml0
  have hown : s.vm.findClass "com/example/wayshard/wayshard/service/VertexQueue" = some m.cls := findClass_of_methodNamed Bd.named
  have hnm := (name_of_methodNamed Bd.named Bd.method).1
  have hlk : meth.locks = false := BodyLoose.notSynchronized Bd
  have X0 : Stand p l e rO0 s m #[(.ref a0)] below meth c s₁ [] 0 0 := Stand.of_body Bd
  have e0 : s₁.heap = h0 := by rw [← hh, Bd.state]; rfl
  have N0 := Fr.nil n0
  show Run p e s below (Q5t33 Z a0 bh bd bp x0 x1 h0 n0) rO0.cells rO0.slots s₁ (entryFrame m #[(.ref a0)] 2)
  rw [ef_5t33]
  obtain ⟨E, Fh, Fd, Fp, Fs, Ft, Ah, Ad, Ap, g0, gh, gd, gp, n0h, n0d, n0p, nhd, nhp, ndp⟩ := St
  show Run _ _ _ _ _ _ _ s₁ (mkF m 0 #[.val (.ref a0), .unset] [])
  refine go (T' := s₁) (f' := (mkF m 1 #[.val (.ref a0), .unset] [(.int (0 : Int32))])) (by intro t k; exact XS.iconst X0.here hx rfl (hb hby d5_0) k) ?_
  refine go (T' := s₁) (f' := (mkF m 2 #[.val (.ref a0), .val (.int (0 : Int32))] [])) (by intro t k; exact XS.istoreN X0.here hx rfl (hb hby d5_1) rfl (l' := #[.val (.ref a0), .val (.int (0 : Int32))]) rfl k) ?_
  refine go (T' := s₁) (f' := (mkF m 3 #[.val (.ref a0), .val (.int (0 : Int32))] [(.int (0 : Int32))])) (by intro t k; exact XS.iloadN X0.here hx rfl (hb hby d5_2) rfl k) ?_
  refine go (T' := s₁) (f' := (mkF m 4 #[.val (.ref a0), .val (.int (0 : Int32))] [(.ref a0), (.int (0 : Int32))])) (by intro t k; exact XS.aloadN X0.here hx rfl (hb hby d5_3) rfl rfl k) ?_
  obtain ⟨T1, X1, e1, st1⟩ := getF X0 hx hZ hown (host := "") (Or.inl (tw hw 30 rfl)) Via.refl e0 Fs (g := (mkF m 4 #[.val (.ref a0), .val (.int (0 : Int32))] [(.ref a0), (.int (0 : Int32))])) rfl rfl (hb hby d5_4)
  refine go st1 ?_
  show Run _ _ _ _ _ _ _ T1 (mkF m 7 #[.val (.ref a0), .val (.int (0 : Int32))] [(.int (2 : Int32)), (.int (0 : Int32))])
  refine go (T' := T1) (f' := (mkF m 10 #[.val (.ref a0), .val (.int (0 : Int32))] [])) (by intro t k; exact XS.icmpNo X1.here hx rfl (hb hby d5_7) rfl (tlt (by decide : (0 : Int32) < (2 : Int32))).2.1 k) ?_
  refine go (T' := T1) (f' := (mkF m 11 #[.val (.ref a0), .val (.int (0 : Int32))] [(.ref a0)])) (by intro t k; exact XS.aloadN X1.here hx rfl (hb hby d5_10) rfl rfl k) ?_
  obtain ⟨T2, X2, e2, st2⟩ := getF X1 hx hZ hown (host := "") (Or.inl (tw hw 15 rfl)) Via.refl e1 Fp (g := (mkF m 11 #[.val (.ref a0), .val (.int (0 : Int32))] [(.ref a0)])) rfl rfl (hb hby d5_11)
  refine go st2 ?_
  show Run _ _ _ _ _ _ _ T2 (mkF m 14 #[.val (.ref a0), .val (.int (0 : Int32))] [(.ref bp)])
  refine go (T' := T2) (f' := (mkF m 15 #[.val (.ref a0), .val (.int (0 : Int32))] [(.ref a0), (.ref bp)])) (by intro t k; exact XS.aloadN X2.here hx rfl (hb hby d5_14) rfl rfl k) ?_
  obtain ⟨T3, X3, e3, st3⟩ := getF X2 hx hZ hown (host := "") (Or.inl (tw hw 10 rfl)) Via.refl e2 Fh (g := (mkF m 15 #[.val (.ref a0), .val (.int (0 : Int32))] [(.ref a0), (.ref bp)])) rfl rfl (hb hby d5_15)
  refine go st3 ?_
  show Run _ _ _ _ _ _ _ T3 (mkF m 18 #[.val (.ref a0), .val (.int (0 : Int32))] [(.ref bh), (.ref bp)])
  refine go (T' := T3) (f' := (mkF m 19 #[.val (.ref a0), .val (.int (0 : Int32))] [(.int (0 : Int32)), (.ref bh), (.ref bp)])) (by intro t k; exact XS.iloadN X3.here hx rfl (hb hby d5_18) rfl k) ?_
  refine go (T' := T3) (f' := (mkF m 20 #[.val (.ref a0), .val (.int (0 : Int32))] [(.int (1 : Int32)), (.ref bp)])) (by intro t k; exact ldI X3 hx hZ e3 Ah (j := (0 : Int32)) (v := (.int (1 : Int32))) (by decide) rfl (g := (mkF m 19 #[.val (.ref a0), .val (.int (0 : Int32))] [(.int (0 : Int32)), (.ref bh), (.ref bp)])) rfl rfl (hb hby d5_19) _ k) ?_
  refine go (T' := T3) (f' := (mkF m 21 #[.val (.ref a0), .val (.int (0 : Int32))] [(.int (-1 : Int32)), (.int (1 : Int32)), (.ref bp)])) (by intro t k; exact XS.iconst X3.here hx rfl (hb hby d5_20) k) ?_
  obtain ⟨cl4, Ar4, hin4⟩ := Ary.st (j := (1 : Int32)) Ap (by decide) (by show (1 : Int32).toNatClampNeg < 2; decide)
  obtain ⟨T4, h4, X4, e4, W4, st4⟩ := stI X3 hx hZ e3 Ar4 (j := (1 : Int32)) hin4 (g := (mkF m 21 #[.val (.ref a0), .val (.int (0 : Int32))] [(.int (-1 : Int32)), (.int (1 : Int32)), (.ref bp)])) rfl rfl (hb hby d5_21)
  have K4 : Keep h0 h4 [bp] := Keep.of_wr W4
  have V4 : Ary Z h4 bp .int [(.int (1 : Int32)), (.int (-1 : Int32))] := Ary.set Ap W4 rfl
  have N4 := Fr.snoc X4 N0 gp
  have E4_a0 := Exa.keep E K4
  have F4_a0_heap := Fld.keep Fh K4 (ninS n0p nin0)
  have F4_a0_priorities := Fld.keep Fd K4 (ninS n0p nin0)
  have F4_a0_places := Fld.keep Fp K4 (ninS n0p nin0)
  have F4_a0_size := Fld.keep Fs K4 (ninS n0p nin0)
  have F4_a0_taken := Fld.keep Ft K4 (ninS n0p nin0)
  have A4_bh := Ary.keep Ah K4 (ninS nhp nin0)
  have A4_bd := Ary.keep Ad K4 (ninS ndp nin0)
  have Z4 : n0 ≤ h4.size := Nat.le_trans Z0 K4.1
  have KK4 : Keep h0 h4 [a0, bh, bd, bp] := (Keep.refl _ _).trans K4 (allS (Or.inl (List.mem_of_getElem? (i := 3) rfl)) all0)
  refine go st4 ?_
  show Run _ _ _ _ _ _ _ T4 (mkF m 22 #[.val (.ref a0), .val (.int (0 : Int32))] [])
  refine go (T' := T4) (f' := (mkF m 25 #[.val (.ref a0), .val (.int (1 : Int32))] [])) (by intro t k; exact XS.iinc X4.here hx rfl (hb hby d5_22) rfl (l' := #[.val (.ref a0), .val (.int (1 : Int32))]) rfl k) ?_
  refine go (T' := T4) (f' := (mkF m 2 #[.val (.ref a0), .val (.int (1 : Int32))] [])) (by intro t k; exact XS.goto X4.here hx rfl (pc0 := 25) (pc' := 2) rfl (hb hby d5_25) (by decide) (by decide) k) ?_
  refine go (T' := T4) (f' := (mkF m 3 #[.val (.ref a0), .val (.int (1 : Int32))] [(.int (1 : Int32))])) (by intro t k; exact XS.iloadN X4.here hx rfl (hb hby d5_2) rfl k) ?_
  refine go (T' := T4) (f' := (mkF m 4 #[.val (.ref a0), .val (.int (1 : Int32))] [(.ref a0), (.int (1 : Int32))])) (by intro t k; exact XS.aloadN X4.here hx rfl (hb hby d5_3) rfl rfl k) ?_
  obtain ⟨T5, X5, e5, st5⟩ := getF X4 hx hZ hown (host := "") (Or.inl (tw hw 30 rfl)) Via.refl e4 F4_a0_size (g := (mkF m 4 #[.val (.ref a0), .val (.int (1 : Int32))] [(.ref a0), (.int (1 : Int32))])) rfl rfl (hb hby d5_4)
  refine go st5 ?_
  show Run _ _ _ _ _ _ _ T5 (mkF m 7 #[.val (.ref a0), .val (.int (1 : Int32))] [(.int (2 : Int32)), (.int (1 : Int32))])
  refine go (T' := T5) (f' := (mkF m 10 #[.val (.ref a0), .val (.int (1 : Int32))] [])) (by intro t k; exact XS.icmpNo X5.here hx rfl (hb hby d5_7) rfl (tlt (by decide : (1 : Int32) < (2 : Int32))).2.1 k) ?_
  refine go (T' := T5) (f' := (mkF m 11 #[.val (.ref a0), .val (.int (1 : Int32))] [(.ref a0)])) (by intro t k; exact XS.aloadN X5.here hx rfl (hb hby d5_10) rfl rfl k) ?_
  obtain ⟨T6, X6, e6, st6⟩ := getF X5 hx hZ hown (host := "") (Or.inl (tw hw 15 rfl)) Via.refl e5 F4_a0_places (g := (mkF m 11 #[.val (.ref a0), .val (.int (1 : Int32))] [(.ref a0)])) rfl rfl (hb hby d5_11)
  refine go st6 ?_
  show Run _ _ _ _ _ _ _ T6 (mkF m 14 #[.val (.ref a0), .val (.int (1 : Int32))] [(.ref bp)])
  refine go (T' := T6) (f' := (mkF m 15 #[.val (.ref a0), .val (.int (1 : Int32))] [(.ref a0), (.ref bp)])) (by intro t k; exact XS.aloadN X6.here hx rfl (hb hby d5_14) rfl rfl k) ?_
  obtain ⟨T7, X7, e7, st7⟩ := getF X6 hx hZ hown (host := "") (Or.inl (tw hw 10 rfl)) Via.refl e6 F4_a0_heap (g := (mkF m 15 #[.val (.ref a0), .val (.int (1 : Int32))] [(.ref a0), (.ref bp)])) rfl rfl (hb hby d5_15)
  refine go st7 ?_
  show Run _ _ _ _ _ _ _ T7 (mkF m 18 #[.val (.ref a0), .val (.int (1 : Int32))] [(.ref bh), (.ref bp)])
  refine go (T' := T7) (f' := (mkF m 19 #[.val (.ref a0), .val (.int (1 : Int32))] [(.int (1 : Int32)), (.ref bh), (.ref bp)])) (by intro t k; exact XS.iloadN X7.here hx rfl (hb hby d5_18) rfl k) ?_
  refine go (T' := T7) (f' := (mkF m 20 #[.val (.ref a0), .val (.int (1 : Int32))] [(.int (0 : Int32)), (.ref bp)])) (by intro t k; exact ldI X7 hx hZ e7 A4_bh (j := (1 : Int32)) (v := (.int (0 : Int32))) (by decide) rfl (g := (mkF m 19 #[.val (.ref a0), .val (.int (1 : Int32))] [(.int (1 : Int32)), (.ref bh), (.ref bp)])) rfl rfl (hb hby d5_19) _ k) ?_
  refine go (T' := T7) (f' := (mkF m 21 #[.val (.ref a0), .val (.int (1 : Int32))] [(.int (-1 : Int32)), (.int (0 : Int32)), (.ref bp)])) (by intro t k; exact XS.iconst X7.here hx rfl (hb hby d5_20) k) ?_
  obtain ⟨cl8, Ar8, hin8⟩ := Ary.st (j := (0 : Int32)) V4 (by decide) (by show (0 : Int32).toNatClampNeg < 2; decide)
  obtain ⟨T8, h8, X8, e8, W8, st8⟩ := stI X7 hx hZ e7 Ar8 (j := (0 : Int32)) hin8 (g := (mkF m 21 #[.val (.ref a0), .val (.int (1 : Int32))] [(.int (-1 : Int32)), (.int (0 : Int32)), (.ref bp)])) rfl rfl (hb hby d5_21)
  have K8 : Keep h4 h8 [bp] := Keep.of_wr W8
  have V8 : Ary Z h8 bp .int [(.int (-1 : Int32)), (.int (-1 : Int32))] := Ary.set V4 W8 rfl
  have N8 := Fr.snoc X8 N4 gp
  have E8_a0 := Exa.keep E4_a0 K8
  have F8_a0_heap := Fld.keep F4_a0_heap K8 (ninS n0p nin0)
  have F8_a0_priorities := Fld.keep F4_a0_priorities K8 (ninS n0p nin0)
  have F8_a0_places := Fld.keep F4_a0_places K8 (ninS n0p nin0)
  have F8_a0_size := Fld.keep F4_a0_size K8 (ninS n0p nin0)
  have F8_a0_taken := Fld.keep F4_a0_taken K8 (ninS n0p nin0)
  have A8_bh := Ary.keep A4_bh K8 (ninS nhp nin0)
  have A8_bd := Ary.keep A4_bd K8 (ninS ndp nin0)
  have Z8 : n0 ≤ h8.size := Nat.le_trans Z4 K8.1
  have KK8 : Keep h0 h8 [a0, bh, bd, bp] := KK4.trans K8 (allS (Or.inl (List.mem_of_getElem? (i := 3) rfl)) all0)
  refine go st8 ?_
  show Run _ _ _ _ _ _ _ T8 (mkF m 22 #[.val (.ref a0), .val (.int (1 : Int32))] [])
  refine go (T' := T8) (f' := (mkF m 25 #[.val (.ref a0), .val (.int (2 : Int32))] [])) (by intro t k; exact XS.iinc X8.here hx rfl (hb hby d5_22) rfl (l' := #[.val (.ref a0), .val (.int (2 : Int32))]) rfl k) ?_
  refine go (T' := T8) (f' := (mkF m 2 #[.val (.ref a0), .val (.int (2 : Int32))] [])) (by intro t k; exact XS.goto X8.here hx rfl (pc0 := 25) (pc' := 2) rfl (hb hby d5_25) (by decide) (by decide) k) ?_
  refine go (T' := T8) (f' := (mkF m 3 #[.val (.ref a0), .val (.int (2 : Int32))] [(.int (2 : Int32))])) (by intro t k; exact XS.iloadN X8.here hx rfl (hb hby d5_2) rfl k) ?_
  refine go (T' := T8) (f' := (mkF m 4 #[.val (.ref a0), .val (.int (2 : Int32))] [(.ref a0), (.int (2 : Int32))])) (by intro t k; exact XS.aloadN X8.here hx rfl (hb hby d5_3) rfl rfl k) ?_
  obtain ⟨T9, X9, e9, st9⟩ := getF X8 hx hZ hown (host := "") (Or.inl (tw hw 30 rfl)) Via.refl e8 F8_a0_size (g := (mkF m 4 #[.val (.ref a0), .val (.int (2 : Int32))] [(.ref a0), (.int (2 : Int32))])) rfl rfl (hb hby d5_4)
  refine go st9 ?_
  show Run _ _ _ _ _ _ _ T9 (mkF m 7 #[.val (.ref a0), .val (.int (2 : Int32))] [(.int (2 : Int32)), (.int (2 : Int32))])
  refine go (T' := T9) (f' := (mkF m 28 #[.val (.ref a0), .val (.int (2 : Int32))] [])) (by intro t k; exact XS.icmpYes X9.here hx rfl (pc0 := 7) (pc' := 28) rfl (hb hby d5_7) rfl (flt (by decide : ¬ ((2 : Int32) < (2 : Int32)))).2.1 (by decide) (by decide) k) ?_
  refine go (T' := T9) (f' := (mkF m 29 #[.val (.ref a0), .val (.int (2 : Int32))] [(.ref a0)])) (by intro t k; exact XS.aloadN X9.here hx rfl (hb hby d5_28) rfl rfl k) ?_
  obtain ⟨T10, X10, e10, st10⟩ := getF X9 hx hZ hown (host := "") (Or.inl (tw hw 10 rfl)) Via.refl e9 F8_a0_heap (g := (mkF m 29 #[.val (.ref a0), .val (.int (2 : Int32))] [(.ref a0)])) rfl rfl (hb hby d5_29)
  refine go st10 ?_
  show Run _ _ _ _ _ _ _ T10 (mkF m 32 #[.val (.ref a0), .val (.int (2 : Int32))] [(.ref bh)])
  refine go (T' := T10) (f' := (mkF m 33 #[.val (.ref a0), .val (.int (2 : Int32))] [(.int (2 : Int32))])) (by intro t k; exact alen X10 hx hZ e10 A8_bh (z := (2 : Int32)) rfl (g := (mkF m 32 #[.val (.ref a0), .val (.int (2 : Int32))] [(.ref bh)])) rfl rfl (hb hby d5_32) _ k) ?_
  refine go (T' := T10) (f' := (mkF m 34 #[.val (.ref a0), .val (.int (2 : Int32))] [(.ref a0), (.int (2 : Int32))])) (by intro t k; exact XS.aloadN X10.here hx rfl (hb hby d5_33) rfl rfl k) ?_
  obtain ⟨T11, X11, e11, st11⟩ := getF X10 hx hZ hown (host := "") (Or.inl (tw hw 32 rfl)) Via.refl e10 F8_a0_taken (g := (mkF m 34 #[.val (.ref a0), .val (.int (2 : Int32))] [(.ref a0), (.int (2 : Int32))])) rfl rfl (hb hby d5_34)
  refine go st11 ?_
  show Run _ _ _ _ _ _ _ T11 (mkF m 37 #[.val (.ref a0), .val (.int (2 : Int32))] [(.int (0 : Int32)), (.int (2 : Int32))])
  refine go (T' := T11) (f' := (mkF m 38 #[.val (.ref a0), .val (.int (2 : Int32))] [(.int (2 : Int32))])) (by intro t k; exact XS.isub X11.here hx rfl (hb hby d5_37) rfl k) ?_
  refine go (T' := T11) (f' := (mkF m 39 #[.val (.ref a0), .val (.int (2 : Int32))] [])) (by intro t k; exact XS.istoreN X11.here hx rfl (hb hby d5_38) rfl (l' := #[.val (.ref a0), .val (.int (2 : Int32))]) rfl k) ?_
  refine go (T' := T11) (f' := (mkF m 40 #[.val (.ref a0), .val (.int (2 : Int32))] [(.int (2 : Int32))])) (by intro t k; exact XS.iloadN X11.here hx rfl (hb hby d5_39) rfl k) ?_
  refine go (T' := T11) (f' := (mkF m 41 #[.val (.ref a0), .val (.int (2 : Int32))] [(.ref a0), (.int (2 : Int32))])) (by intro t k; exact XS.aloadN X11.here hx rfl (hb hby d5_40) rfl rfl k) ?_
  obtain ⟨T12, X12, e12, st12⟩ := getF X11 hx hZ hown (host := "") (Or.inl (tw hw 10 rfl)) Via.refl e11 F8_a0_heap (g := (mkF m 41 #[.val (.ref a0), .val (.int (2 : Int32))] [(.ref a0), (.int (2 : Int32))])) rfl rfl (hb hby d5_41)
  refine go st12 ?_
  show Run _ _ _ _ _ _ _ T12 (mkF m 44 #[.val (.ref a0), .val (.int (2 : Int32))] [(.ref bh), (.int (2 : Int32))])
  refine go (T' := T12) (f' := (mkF m 45 #[.val (.ref a0), .val (.int (2 : Int32))] [(.int (2 : Int32)), (.int (2 : Int32))])) (by intro t k; exact alen X12 hx hZ e12 A8_bh (z := (2 : Int32)) rfl (g := (mkF m 44 #[.val (.ref a0), .val (.int (2 : Int32))] [(.ref bh), (.int (2 : Int32))])) rfl rfl (hb hby d5_44) _ k) ?_
  refine go (T' := T12) (f' := (mkF m 66 #[.val (.ref a0), .val (.int (2 : Int32))] [])) (by intro t k; exact XS.icmpYes X12.here hx rfl (pc0 := 45) (pc' := 66) rfl (hb hby d5_45) rfl (flt (by decide : ¬ ((2 : Int32) < (2 : Int32)))).2.1 (by decide) (by decide) k) ?_
  refine go (T' := T12) (f' := (mkF m 67 #[.val (.ref a0), .val (.int (2 : Int32))] [(.ref a0)])) (by intro t k; exact XS.aloadN X12.here hx rfl (hb hby d5_66) rfl rfl k) ?_
  refine go (T' := T12) (f' := (mkF m 68 #[.val (.ref a0), .val (.int (2 : Int32))] [(.int (0 : Int32)), (.ref a0)])) (by intro t k; exact XS.iconst X12.here hx rfl (hb hby d5_67) k) ?_
  obtain ⟨T13, h13, X13, e13, W13, st13⟩ := putF X12 hx hZ hown (host := "") (Or.inl (tw hw 30 rfl)) Via.refl e12 F8_a0_size E8_a0 (Or.inl (tw hw 31 rfl)) (tw hw 1 rfl) (ty := .int) (by decide) rfl rfl (g := (mkF m 68 #[.val (.ref a0), .val (.int (2 : Int32))] [(.int (0 : Int32)), (.ref a0)])) rfl rfl (hb hby d5_68)
  have K13 : Keep h8 h13 [a0] := Keep.of_wr W13
  have F13_a0_heap := Fld.other W13 F8_a0_heap (Or.inr (slot_ne (Or.inr (tw hw 11 rfl)) (Or.inl (tw hw 31 rfl)) (by decide) (t := (.array .int)) (t' := .int) (by decide) (by decide)))
  have F13_a0_priorities := Fld.other W13 F8_a0_priorities (Or.inr (slot_ne (Or.inr (tw hw 14 rfl)) (Or.inl (tw hw 31 rfl)) (by decide) (t := (.array .double)) (t' := .int) (by decide) (by decide)))
  have F13_a0_places := Fld.other W13 F8_a0_places (Or.inr (slot_ne (Or.inr (tw hw 16 rfl)) (Or.inl (tw hw 31 rfl)) (by decide) (t := (.array .int)) (t' := .int) (by decide) (by decide)))
  have F13_a0_size : Fld Z h13 a0 "com/example/wayshard/wayshard/service/VertexQueue" "size" "I" (.int (0 : Int32)) := F8_a0_size.same W13
  have F13_a0_taken := Fld.other W13 F8_a0_taken (Or.inr (slot_ne (Or.inl (tw hw 33 rfl)) (Or.inl (tw hw 31 rfl)) (by decide) (t := .int) (t' := .int) (by decide) (by decide)))
  have N13 := Fr.snoc X13 N8 g0
  have E13_a0 := Exa.keep E8_a0 K13
  have A13_bh := Ary.keep A8_bh K13 (ninS (Ne.symm n0h) nin0)
  have A13_bd := Ary.keep A8_bd K13 (ninS (Ne.symm n0d) nin0)
  have A13_bp := Ary.keep V8 K13 (ninS (Ne.symm n0p) nin0)
  have Z13 : n0 ≤ h13.size := Nat.le_trans Z8 K13.1
  have KK13 : Keep h0 h13 [a0, bh, bd, bp] := KK8.trans K13 (allS (Or.inl (List.mem_of_getElem? (i := 0) rfl)) all0)
  refine go st13 ?_
  show Run _ _ _ _ _ _ _ T13 (mkF m 71 #[.val (.ref a0), .val (.int (2 : Int32))] [])
  refine go (T' := T13) (f' := (mkF m 72 #[.val (.ref a0), .val (.int (2 : Int32))] [(.ref a0)])) (by intro t k; exact XS.aloadN X13.here hx rfl (hb hby d5_71) rfl rfl k) ?_
  refine go (T' := T13) (f' := (mkF m 73 #[.val (.ref a0), .val (.int (2 : Int32))] [(.int (0 : Int32)), (.ref a0)])) (by intro t k; exact XS.iconst X13.here hx rfl (hb hby d5_72) k) ?_
  obtain ⟨T14, h14, X14, e14, W14, st14⟩ := putF X13 hx hZ hown (host := "") (Or.inl (tw hw 32 rfl)) Via.refl e13 F13_a0_taken E13_a0 (Or.inl (tw hw 33 rfl)) (tw hw 1 rfl) (ty := .int) (by decide) rfl rfl (g := (mkF m 73 #[.val (.ref a0), .val (.int (2 : Int32))] [(.int (0 : Int32)), (.ref a0)])) rfl rfl (hb hby d5_73)
  have K14 : Keep h13 h14 [a0] := Keep.of_wr W14
  have F14_a0_heap := Fld.other W14 F13_a0_heap (Or.inr (slot_ne (Or.inr (tw hw 11 rfl)) (Or.inl (tw hw 33 rfl)) (by decide) (t := (.array .int)) (t' := .int) (by decide) (by decide)))
  have F14_a0_priorities := Fld.other W14 F13_a0_priorities (Or.inr (slot_ne (Or.inr (tw hw 14 rfl)) (Or.inl (tw hw 33 rfl)) (by decide) (t := (.array .double)) (t' := .int) (by decide) (by decide)))
  have F14_a0_places := Fld.other W14 F13_a0_places (Or.inr (slot_ne (Or.inr (tw hw 16 rfl)) (Or.inl (tw hw 33 rfl)) (by decide) (t := (.array .int)) (t' := .int) (by decide) (by decide)))
  have F14_a0_size := Fld.other W14 F13_a0_size (Or.inr (slot_ne (Or.inl (tw hw 31 rfl)) (Or.inl (tw hw 33 rfl)) (by decide) (t := .int) (t' := .int) (by decide) (by decide)))
  have F14_a0_taken : Fld Z h14 a0 "com/example/wayshard/wayshard/service/VertexQueue" "taken" "I" (.int (0 : Int32)) := F13_a0_taken.same W14
  have N14 := Fr.snoc X14 N13 g0
  have E14_a0 := Exa.keep E13_a0 K14
  have A14_bh := Ary.keep A13_bh K14 (ninS (Ne.symm n0h) nin0)
  have A14_bd := Ary.keep A13_bd K14 (ninS (Ne.symm n0d) nin0)
  have A14_bp := Ary.keep A13_bp K14 (ninS (Ne.symm n0p) nin0)
  have Z14 : n0 ≤ h14.size := Nat.le_trans Z13 K14.1
  have KK14 : Keep h0 h14 [a0, bh, bd, bp] := KK13.trans K14 (allS (Or.inl (List.mem_of_getElem? (i := 0) rfl)) all0)
  refine go st14 ?_
  show Run _ _ _ _ _ _ _ T14 (mkF m 76 #[.val (.ref a0), .val (.int (2 : Int32))] [])
  refine retV X14 hx Bd.returns (hb hby d5_76) hlk (by decide) (by decide) ?_
  show Q5t33 Z a0 bh bd bp x0 x1 h0 n0 _ T14.heap _
  rw [e14]
  exact ⟨rfl, N14, KK14, ⟨E14_a0, F14_a0_heap, F14_a0_priorities, F14_a0_places, F14_a0_size, F14_a0_taken, A14_bh, A14_bd, A14_bp, g0, gh, gd, gp, n0h, n0d, n0p, nhd, nhp, ndp⟩⟩
theorem ef_10t36 (m : MethodId) (x0 : Addr) : entryFrame m #[(.ref x0), (.int (0 : Int32)), (.int (0 : Int32))] 3 = mkF m 0 #[.val (.ref x0), .val (.int (0 : Int32)), .val (.int (0 : Int32))] [] := by first | (simp [entryFrame, mkF, argsToLocals, Value.category]; done) | rfl
def Q10t36 (Z : State) (a0 : Addr) (bh bd bp : Addr) (x0 x1 : UInt64) (h0 : Heap) (n0 : Nat) (v : Option Value) (h : Heap) (L : List Loc) : Prop := v = none ∧ Fr n0 L ∧ Keep h0 h [a0, bh, bd, bp] ∧ own_st Z n0 h a0 bh bd bp (0 : Int32) (0 : Int32) (0 : Int32) (0 : Int32) (1 : Int32) (0 : Int32) x0 x1
set_option maxRecDepth 65536 in
set_option maxHeartbeats 40000000 in
theorem rm10t36 (l : Launch) (Z : State) (aw : Array Value) (hw : ∀ d ∈ tables_1, d.before aw Z = true) (ws : List Jvm.Cond) (a0 : Addr) (bh bd bp : Addr) (x0 x1 : UInt64) (h0 : Heap) (n0 : Nat) (Z0 : n0 ≤ h0.size) (St : own_st Z n0 h0 a0 bh bd bp (0 : Int32) (0 : Int32) (0 : Int32) (0 : Int32) (1 : Int32) (0 : Int32) x0 x1) :
    MetFree l mmove (head1 (Jvm.Cond.code mmove prog_64_method_9_code 3 none :: ws) rO0) (fun a U => a = #[(.ref a0), (.int (0 : Int32)), (.int (0 : Int32))] ∧ Z.Warmed39 U.vm ∧ U.heap = h0) (fun _ _ _ _ _ => True) (fun _ U o U' => ∃ v L, o = .returned v ∧ Q10t36 Z a0 bh bd bp x0 x1 h0 n0 v U'.heap L ∧ FrameEnd U o U' L rO0.cells rO0.slots) := by
  refine MetFree.of_bodySF (plainFor_of_name pn_1) hisR ?_
  intro p e s m args below meth c s₁ Bd hml0 hP hK
  obtain ⟨rfl, hZ, hh⟩ := hP
  have hx := Bd.exec
  have hby := Bd.bytes
  have hml : c.maxLocals = 3 := hml0
  have hown : s.vm.findClass "com/example/wayshard/wayshard/service/VertexQueue" = some m.cls := findClass_of_methodNamed Bd.named
  have hnm := (name_of_methodNamed Bd.named Bd.method).1
  have hlk : meth.locks = false := BodyLoose.notSynchronized Bd
  have X0 : Stand p l e rO0 s m #[(.ref a0), (.int (0 : Int32)), (.int (0 : Int32))] below meth c s₁ [] 0 0 := Stand.of_body Bd
  have e0 : s₁.heap = h0 := by rw [← hh, Bd.state]; rfl
  have N0 := Fr.nil n0
  show Run p e s below (Q10t36 Z a0 bh bd bp x0 x1 h0 n0) rO0.cells rO0.slots s₁ (entryFrame m #[(.ref a0), (.int (0 : Int32)), (.int (0 : Int32))] 3)
  rw [ef_10t36]
  obtain ⟨E, Fh, Fd, Fp, Fs, Ft, Ah, Ad, Ap, g0, gh, gd, gp, n0h, n0d, n0p, nhd, nhp, ndp⟩ := St
  show Run _ _ _ _ _ _ _ s₁ (mkF m 0 #[.val (.ref a0), .val (.int (0 : Int32)), .val (.int (0 : Int32))] [])
  refine go (T' := s₁) (f' := (mkF m 1 #[.val (.ref a0), .val (.int (0 : Int32)), .val (.int (0 : Int32))] [(.ref a0)])) (by intro t k; exact XS.aloadN X0.here hx rfl (hb hby d10_0) rfl rfl k) ?_
  obtain ⟨T1, X1, e1, st1⟩ := getF X0 hx hZ hown (host := "") (Or.inl (tw hw 10 rfl)) Via.refl e0 Fh (g := (mkF m 1 #[.val (.ref a0), .val (.int (0 : Int32)), .val (.int (0 : Int32))] [(.ref a0)])) rfl rfl (hb hby d10_1)
  refine go st1 ?_
  show Run _ _ _ _ _ _ _ T1 (mkF m 4 #[.val (.ref a0), .val (.int (0 : Int32)), .val (.int (0 : Int32))] [(.ref bh)])
  refine go (T' := T1) (f' := (mkF m 5 #[.val (.ref a0), .val (.int (0 : Int32)), .val (.int (0 : Int32))] [(.int (0 : Int32)), (.ref bh)])) (by intro t k; exact XS.iloadN X1.here hx rfl (hb hby d10_4) rfl k) ?_
  refine go (T' := T1) (f' := (mkF m 6 #[.val (.ref a0), .val (.int (0 : Int32)), .val (.int (0 : Int32))] [(.int (0 : Int32)), (.int (0 : Int32)), (.ref bh)])) (by intro t k; exact XS.iloadN X1.here hx rfl (hb hby d10_5) rfl k) ?_
  obtain ⟨cl2, Ar2, hin2⟩ := Ary.st (j := (0 : Int32)) Ah (by decide) (by show (0 : Int32).toNatClampNeg < 2; decide)
  obtain ⟨T2, h2, X2, e2, W2, st2⟩ := stI X1 hx hZ e1 Ar2 (j := (0 : Int32)) hin2 (g := (mkF m 6 #[.val (.ref a0), .val (.int (0 : Int32)), .val (.int (0 : Int32))] [(.int (0 : Int32)), (.int (0 : Int32)), (.ref bh)])) rfl rfl (hb hby d10_6)
  have K2 : Keep h0 h2 [bh] := Keep.of_wr W2
  have V2 : Ary Z h2 bh .int [(.int (0 : Int32)), (.int (0 : Int32))] := Ary.set Ah W2 rfl
  have N2 := Fr.snoc X2 N0 gh
  have E2_a0 := Exa.keep E K2
  have F2_a0_heap := Fld.keep Fh K2 (ninS n0h nin0)
  have F2_a0_priorities := Fld.keep Fd K2 (ninS n0h nin0)
  have F2_a0_places := Fld.keep Fp K2 (ninS n0h nin0)
  have F2_a0_size := Fld.keep Fs K2 (ninS n0h nin0)
  have F2_a0_taken := Fld.keep Ft K2 (ninS n0h nin0)
  have A2_bd := Ary.keep Ad K2 (ninS (Ne.symm nhd) nin0)
  have A2_bp := Ary.keep Ap K2 (ninS (Ne.symm nhp) nin0)
  have Z2 : n0 ≤ h2.size := Nat.le_trans Z0 K2.1
  have KK2 : Keep h0 h2 [a0, bh, bd, bp] := (Keep.refl _ _).trans K2 (allS (Or.inl (List.mem_of_getElem? (i := 1) rfl)) all0)
  refine go st2 ?_
  show Run _ _ _ _ _ _ _ T2 (mkF m 7 #[.val (.ref a0), .val (.int (0 : Int32)), .val (.int (0 : Int32))] [])
  refine go (T' := T2) (f' := (mkF m 8 #[.val (.ref a0), .val (.int (0 : Int32)), .val (.int (0 : Int32))] [(.ref a0)])) (by intro t k; exact XS.aloadN X2.here hx rfl (hb hby d10_7) rfl rfl k) ?_
  obtain ⟨T3, X3, e3, st3⟩ := getF X2 hx hZ hown (host := "") (Or.inl (tw hw 15 rfl)) Via.refl e2 F2_a0_places (g := (mkF m 8 #[.val (.ref a0), .val (.int (0 : Int32)), .val (.int (0 : Int32))] [(.ref a0)])) rfl rfl (hb hby d10_8)
  refine go st3 ?_
  show Run _ _ _ _ _ _ _ T3 (mkF m 11 #[.val (.ref a0), .val (.int (0 : Int32)), .val (.int (0 : Int32))] [(.ref bp)])
  refine go (T' := T3) (f' := (mkF m 12 #[.val (.ref a0), .val (.int (0 : Int32)), .val (.int (0 : Int32))] [(.int (0 : Int32)), (.ref bp)])) (by intro t k; exact XS.iloadN X3.here hx rfl (hb hby d10_11) rfl k) ?_
  refine go (T' := T3) (f' := (mkF m 13 #[.val (.ref a0), .val (.int (0 : Int32)), .val (.int (0 : Int32))] [(.int (0 : Int32)), (.int (0 : Int32)), (.ref bp)])) (by intro t k; exact XS.iloadN X3.here hx rfl (hb hby d10_12) rfl k) ?_
  obtain ⟨cl4, Ar4, hin4⟩ := Ary.st (j := (0 : Int32)) A2_bp (by decide) (by show (0 : Int32).toNatClampNeg < 2; decide)
  obtain ⟨T4, h4, X4, e4, W4, st4⟩ := stI X3 hx hZ e3 Ar4 (j := (0 : Int32)) hin4 (g := (mkF m 13 #[.val (.ref a0), .val (.int (0 : Int32)), .val (.int (0 : Int32))] [(.int (0 : Int32)), (.int (0 : Int32)), (.ref bp)])) rfl rfl (hb hby d10_13)
  have K4 : Keep h2 h4 [bp] := Keep.of_wr W4
  have V4 : Ary Z h4 bp .int [(.int (0 : Int32)), (.int (0 : Int32))] := Ary.set A2_bp W4 rfl
  have N4 := Fr.snoc X4 N2 gp
  have E4_a0 := Exa.keep E2_a0 K4
  have F4_a0_heap := Fld.keep F2_a0_heap K4 (ninS n0p nin0)
  have F4_a0_priorities := Fld.keep F2_a0_priorities K4 (ninS n0p nin0)
  have F4_a0_places := Fld.keep F2_a0_places K4 (ninS n0p nin0)
  have F4_a0_size := Fld.keep F2_a0_size K4 (ninS n0p nin0)
  have F4_a0_taken := Fld.keep F2_a0_taken K4 (ninS n0p nin0)
  have A4_bh := Ary.keep V2 K4 (ninS nhp nin0)
  have A4_bd := Ary.keep A2_bd K4 (ninS ndp nin0)
  have Z4 : n0 ≤ h4.size := Nat.le_trans Z2 K4.1
  have KK4 : Keep h0 h4 [a0, bh, bd, bp] := KK2.trans K4 (allS (Or.inl (List.mem_of_getElem? (i := 3) rfl)) all0)
  refine go st4 ?_
  show Run _ _ _ _ _ _ _ T4 (mkF m 14 #[.val (.ref a0), .val (.int (0 : Int32)), .val (.int (0 : Int32))] [])
  refine retV X4 hx Bd.returns (hb hby d10_14) hlk (by decide) (by decide) ?_
  show Q10t36 Z a0 bh bd bp x0 x1 h0 n0 _ T4.heap _
  rw [e4]
  exact ⟨rfl, N4, KK4, ⟨E4_a0, F4_a0_heap, F4_a0_priorities, F4_a0_places, F4_a0_size, F4_a0_taken, A4_bh, A4_bd, V4, g0, gh, gd, gp, n0h, n0d, n0p, nhd, nhp, ndp⟩⟩
theorem d12_0 : decode prog_64_method_8_code 0 = .ok (.aload_n 0, 1) := by decide +kernel
theorem d12_1 : decode prog_64_method_8_code 1 = .ok (.getfield 7, 3) := by decide +kernel
theorem d12_4 : decode prog_64_method_8_code 4 = .ok (.iload_n 1, 1) := by decide +kernel
theorem d12_5 : decode prog_64_method_8_code 5 = .ok (.iaload, 1) := by decide +kernel
theorem d12_6 : decode prog_64_method_8_code 6 = .ok (.istore_n 2, 1) := by decide +kernel
theorem d12_7 : decode prog_64_method_8_code 7 = .ok (.iload_n 1, 1) := by decide +kernel
theorem d12_8 : decode prog_64_method_8_code 8 = .ok (.istore_n 3, 1) := by decide +kernel
theorem d12_9 : decode prog_64_method_8_code 9 = .ok (.iconst 2, 1) := by decide +kernel
theorem d12_10 : decode prog_64_method_8_code 10 = .ok (.iload_n 3, 1) := by decide +kernel
theorem d12_11 : decode prog_64_method_8_code 11 = .ok (.imul, 1) := by decide +kernel
theorem d12_12 : decode prog_64_method_8_code 12 = .ok (.iconst 1, 1) := by decide +kernel
theorem d12_13 : decode prog_64_method_8_code 13 = .ok (.iadd, 1) := by decide +kernel
theorem d12_14 : decode prog_64_method_8_code 14 = .ok (.aload_n 0, 1) := by decide +kernel
theorem d12_15 : decode prog_64_method_8_code 15 = .ok (.getfield 26, 3) := by decide +kernel
theorem d12_18 : decode prog_64_method_8_code 18 = .ok (.if_icmp .ge 97, 3) := by decide +kernel
theorem d12_115 : decode prog_64_method_8_code 115 = .ok (.aload_n 0, 1) := by decide +kernel
theorem d12_116 : decode prog_64_method_8_code 116 = .ok (.iload_n 2, 1) := by decide +kernel
theorem d12_117 : decode prog_64_method_8_code 117 = .ok (.iload_n 3, 1) := by decide +kernel
theorem d12_118 : decode prog_64_method_8_code 118 = .ok (.invokevirtual 43, 3) := by decide +kernel
theorem d12_121 : decode prog_64_method_8_code 121 = .ok (.return_, 1) := by decide +kernel
theorem ef_12t35 (m : MethodId) (x0 : Addr) : entryFrame m #[(.ref x0), (.int (0 : Int32))] 5 = mkF m 0 #[.val (.ref x0), .val (.int (0 : Int32)), .unset, .unset, .unset] [] := by first | (simp [entryFrame, mkF, argsToLocals, Value.category]; done) | rfl
def Q12t35 (Z : State) (a0 : Addr) (bh bd bp : Addr) (x0 x1 : UInt64) (h0 : Heap) (n0 : Nat) (v : Option Value) (h : Heap) (L : List Loc) : Prop := v = none ∧ Fr n0 L ∧ Keep h0 h [a0, bh, bd, bp] ∧ own_st Z n0 h a0 bh bd bp (0 : Int32) (0 : Int32) (0 : Int32) (0 : Int32) (1 : Int32) (0 : Int32) x0 x1
set_option maxRecDepth 65536 in
set_option maxHeartbeats 40000000 in
theorem rm12t35 (l : Launch) (Z : State) (aw : Array Value) (hw : ∀ d ∈ tables_1, d.before aw Z = true) (ws : List Jvm.Cond) (a0 : Addr) (bh bd bp : Addr) (x0 x1 : UInt64) (h0 : Heap) (n0 : Nat) (Z0 : n0 ≤ h0.size) (St : own_st Z n0 h0 a0 bh bd bp (0 : Int32) (0 : Int32) (0 : Int32) (0 : Int32) (1 : Int32) (0 : Int32) x0 x1) :
    MetFree l msiftDown (head1 (Jvm.Cond.code msiftDown prog_64_method_8_code 5 none :: ws) rO1) (fun a U => a = #[(.ref a0), (.int (0 : Int32))] ∧ Z.Warmed39 U.vm ∧ U.heap = h0) (fun _ _ _ _ _ => True) (fun _ U o U' => ∃ v L, o = .returned v ∧ Q12t35 Z a0 bh bd bp x0 x1 h0 n0 v U'.heap L ∧ FrameEnd U o U' L rO1.cells rO1.slots) := by
  refine MetFree.of_bodySF (plainFor_of_name pn_1) hisR ?_
  intro p e s m args below meth c s₁ Bd hml0 hP hK
  obtain ⟨rfl, hZ, hh⟩ := hP
  have hx := Bd.exec
  have hby := Bd.bytes
  have hml : c.maxLocals = 5 := hml0
  have hown : s.vm.findClass "com/example/wayshard/wayshard/service/VertexQueue" = some m.cls := findClass_of_methodNamed Bd.named
  have hnm := (name_of_methodNamed Bd.named Bd.method).1
  have hlk : meth.locks = false := BodyLoose.notSynchronized Bd
  have X0 : Stand p l e rO1 s m #[(.ref a0), (.int (0 : Int32))] below meth c s₁ [] 0 0 := Stand.of_body Bd
  have e0 : s₁.heap = h0 := by rw [← hh, Bd.state]; rfl
  have N0 := Fr.nil n0
  show Run p e s below (Q12t35 Z a0 bh bd bp x0 x1 h0 n0) rO1.cells rO1.slots s₁ (entryFrame m #[(.ref a0), (.int (0 : Int32))] 5)
  rw [ef_12t35]
  obtain ⟨E, Fh, Fd, Fp, Fs, Ft, Ah, Ad, Ap, g0, gh, gd, gp, n0h, n0d, n0p, nhd, nhp, ndp⟩ := St
  show Run _ _ _ _ _ _ _ s₁ (mkF m 0 #[.val (.ref a0), .val (.int (0 : Int32)), .unset, .unset, .unset] [])
  refine go (T' := s₁) (f' := (mkF m 1 #[.val (.ref a0), .val (.int (0 : Int32)), .unset, .unset, .unset] [(.ref a0)])) (by intro t k; exact XS.aloadN X0.here hx rfl (hb hby d12_0) rfl rfl k) ?_
  obtain ⟨T1, X1, e1, st1⟩ := getF X0 hx hZ hown (host := "") (Or.inl (tw hw 10 rfl)) Via.refl e0 Fh (g := (mkF m 1 #[.val (.ref a0), .val (.int (0 : Int32)), .unset, .unset, .unset] [(.ref a0)])) rfl rfl (hb hby d12_1)
  refine go st1 ?_
  show Run _ _ _ _ _ _ _ T1 (mkF m 4 #[.val (.ref a0), .val (.int (0 : Int32)), .unset, .unset, .unset] [(.ref bh)])
  refine go (T' := T1) (f' := (mkF m 5 #[.val (.ref a0), .val (.int (0 : Int32)), .unset, .unset, .unset] [(.int (0 : Int32)), (.ref bh)])) (by intro t k; exact XS.iloadN X1.here hx rfl (hb hby d12_4) rfl k) ?_
  refine go (T' := T1) (f' := (mkF m 6 #[.val (.ref a0), .val (.int (0 : Int32)), .unset, .unset, .unset] [(.int (0 : Int32))])) (by intro t k; exact ldI X1 hx hZ e1 Ah (j := (0 : Int32)) (v := (.int (0 : Int32))) (by decide) rfl (g := (mkF m 5 #[.val (.ref a0), .val (.int (0 : Int32)), .unset, .unset, .unset] [(.int (0 : Int32)), (.ref bh)])) rfl rfl (hb hby d12_5) _ k) ?_
  refine go (T' := T1) (f' := (mkF m 7 #[.val (.ref a0), .val (.int (0 : Int32)), .val (.int (0 : Int32)), .unset, .unset] [])) (by intro t k; exact XS.istoreN X1.here hx rfl (hb hby d12_6) rfl (l' := #[.val (.ref a0), .val (.int (0 : Int32)), .val (.int (0 : Int32)), .unset, .unset]) rfl k) ?_
  refine go (T' := T1) (f' := (mkF m 8 #[.val (.ref a0), .val (.int (0 : Int32)), .val (.int (0 : Int32)), .unset, .unset] [(.int (0 : Int32))])) (by intro t k; exact XS.iloadN X1.here hx rfl (hb hby d12_7) rfl k) ?_
  refine go (T' := T1) (f' := (mkF m 9 #[.val (.ref a0), .val (.int (0 : Int32)), .val (.int (0 : Int32)), .val (.int (0 : Int32)), .unset] [])) (by intro t k; exact XS.istoreN X1.here hx rfl (hb hby d12_8) rfl (l' := #[.val (.ref a0), .val (.int (0 : Int32)), .val (.int (0 : Int32)), .val (.int (0 : Int32)), .unset]) rfl k) ?_
  refine go (T' := T1) (f' := (mkF m 10 #[.val (.ref a0), .val (.int (0 : Int32)), .val (.int (0 : Int32)), .val (.int (0 : Int32)), .unset] [(.int (2 : Int32))])) (by intro t k; exact XS.iconst X1.here hx rfl (hb hby d12_9) k) ?_
  refine go (T' := T1) (f' := (mkF m 11 #[.val (.ref a0), .val (.int (0 : Int32)), .val (.int (0 : Int32)), .val (.int (0 : Int32)), .unset] [(.int (0 : Int32)), (.int (2 : Int32))])) (by intro t k; exact XS.iloadN X1.here hx rfl (hb hby d12_10) rfl k) ?_
  refine go (T' := T1) (f' := (mkF m 12 #[.val (.ref a0), .val (.int (0 : Int32)), .val (.int (0 : Int32)), .val (.int (0 : Int32)), .unset] [(.int (0 : Int32))])) (by intro t k; exact XS.imul X1.here hx rfl (hb hby d12_11) rfl k) ?_
  refine go (T' := T1) (f' := (mkF m 13 #[.val (.ref a0), .val (.int (0 : Int32)), .val (.int (0 : Int32)), .val (.int (0 : Int32)), .unset] [(.int (1 : Int32)), (.int (0 : Int32))])) (by intro t k; exact XS.iconst X1.here hx rfl (hb hby d12_12) k) ?_
  refine go (T' := T1) (f' := (mkF m 14 #[.val (.ref a0), .val (.int (0 : Int32)), .val (.int (0 : Int32)), .val (.int (0 : Int32)), .unset] [(.int (1 : Int32))])) (by intro t k; exact XS.iadd X1.here hx rfl (hb hby d12_13) rfl k) ?_
  refine go (T' := T1) (f' := (mkF m 15 #[.val (.ref a0), .val (.int (0 : Int32)), .val (.int (0 : Int32)), .val (.int (0 : Int32)), .unset] [(.ref a0), (.int (1 : Int32))])) (by intro t k; exact XS.aloadN X1.here hx rfl (hb hby d12_14) rfl rfl k) ?_
  obtain ⟨T2, X2, e2, st2⟩ := getF X1 hx hZ hown (host := "") (Or.inl (tw hw 30 rfl)) Via.refl e1 Fs (g := (mkF m 15 #[.val (.ref a0), .val (.int (0 : Int32)), .val (.int (0 : Int32)), .val (.int (0 : Int32)), .unset] [(.ref a0), (.int (1 : Int32))])) rfl rfl (hb hby d12_15)
  refine go st2 ?_
  show Run _ _ _ _ _ _ _ T2 (mkF m 18 #[.val (.ref a0), .val (.int (0 : Int32)), .val (.int (0 : Int32)), .val (.int (0 : Int32)), .unset] [(.int (1 : Int32)), (.int (1 : Int32))])
  refine go (T' := T2) (f' := (mkF m 115 #[.val (.ref a0), .val (.int (0 : Int32)), .val (.int (0 : Int32)), .val (.int (0 : Int32)), .unset] [])) (by intro t k; exact XS.icmpYes X2.here hx rfl (pc0 := 18) (pc' := 115) rfl (hb hby d12_18) rfl (flt (by decide : ¬ ((1 : Int32) < (1 : Int32)))).2.1 (by decide) (by decide) k) ?_
  refine go (T' := T2) (f' := (mkF m 116 #[.val (.ref a0), .val (.int (0 : Int32)), .val (.int (0 : Int32)), .val (.int (0 : Int32)), .unset] [(.ref a0)])) (by intro t k; exact XS.aloadN X2.here hx rfl (hb hby d12_115) rfl rfl k) ?_
  refine go (T' := T2) (f' := (mkF m 117 #[.val (.ref a0), .val (.int (0 : Int32)), .val (.int (0 : Int32)), .val (.int (0 : Int32)), .unset] [(.int (0 : Int32)), (.ref a0)])) (by intro t k; exact XS.iloadN X2.here hx rfl (hb hby d12_116) rfl k) ?_
  refine go (T' := T2) (f' := (mkF m 118 #[.val (.ref a0), .val (.int (0 : Int32)), .val (.int (0 : Int32)), .val (.int (0 : Int32)), .unset] [(.int (0 : Int32)), (.int (0 : Int32)), (.ref a0)])) (by intro t k; exact XS.iloadN X2.here hx rfl (hb hby d12_117) rfl k) ?_
  obtain ⟨cq3, q3, q3'⟩ := (E).cell
  obtain ⟨_, _, ⟨T3, Lz3, kz3, nz3⟩, -, X3, ⟨Lc3, hQ3, lz3, yz3, zz3⟩, st3⟩ := X2.privateBack hx (y := mmove) hown (mvT hZ (tw hw 53 rfl)) (mvT hZ (tw hw 54 rfl)) (selP (y := mmove) (mvT hZ (tw hw 1 rfl)) (Cond.privateMethod_at (mvP hZ (tw hw 55 rfl) (args := #[]))) (mvT hZ (tw hw 54 rfl)) (by decide)) (Cond.privateMethod_at (mvP hZ (tw hw 55 rfl) (args := #[]))) (mvT hZ (tw hw 56 rfl)) (by decide) (backOf (W := 0) (rm10t36 l Z aw hw [] a0 bh bd bp x0 x1  h0 n0 Z0 ⟨E, Fh, Fd, Fp, Fs, Ft, Ah, Ad, Ap, g0, gh, gd, gp, n0h, n0d, n0p, nhd, nhp, ndp⟩) hZ (tw hw 56 rfl) (tw hw 2 rfl) (by decide) (by decide)) (g := (mkF m 118 #[.val (.ref a0), .val (.int (0 : Int32)), .val (.int (0 : Int32)), .val (.int (0 : Int32)), .unset] [(.int (0 : Int32)), (.int (0 : Int32)), (.ref a0)])) rfl (by rw [hml]; rfl) (Steps.refl _) (a := a0) (by rw [e2]; exact q3) q3' (argsL := [(.int (0 : Int32)), (.int (0 : Int32))]) (rest := []) (lenOf pd_28II29V rfl) rfl (by show 2 * 0 + _ ≤ _; exact Nat.le_of_eq rfl) (hb hby d12_118) (fun _ _ => ⟨rfl, e2, (by decide : 0 + 0 ≤ _), (by decide : 0 + 0 ≤ _)⟩)
  dsimp only [Pt.U, Pt.locs, Pt.cells, Pt.slots] at X3 lz3 yz3 zz3 st3 hQ3
  subst lz3 yz3 zz3
  obtain ⟨rfl, N3q, K3, hD3⟩ := hQ3
  have E3_a0 := Exa.keep E K3
  have Z3 : n0 ≤ T3.heap.size := Nat.le_trans Z0 K3.1
  have KK3 : Keep h0 T3.heap [a0, bh, bd, bp] := (Keep.refl _ _).trans K3 (allS (Or.inl (List.mem_of_getElem? (i := 0) rfl)) (allS (Or.inl (List.mem_of_getElem? (i := 1) rfl)) (allS (Or.inl (List.mem_of_getElem? (i := 2) rfl)) (allS (Or.inl (List.mem_of_getElem? (i := 3) rfl)) all0))))
  obtain ⟨E3, Fh3, Fd3, Fp3, Fs3, Ft3, Ah3, Ad3, Ap3, g03, gh3, gd3, gp3, n0h3, n0d3, n0p3, nhd3, nhp3, ndp3⟩ := hD3
  have N3 := Fr.app N0 N3q
  refine go (fun _ k => st3.trans k) ?_
  show Run _ _ _ _ _ _ _ T3 (mkF m 121 #[.val (.ref a0), .val (.int (0 : Int32)), .val (.int (0 : Int32)), .val (.int (0 : Int32)), .unset] [])
  refine retV X3 hx Bd.returns (hb hby d12_121) hlk (by decide) (by decide) ?_
  show Q12t35 Z a0 bh bd bp x0 x1 h0 n0 _ T3.heap _
  exact ⟨rfl, N3, KK3, ⟨E3, Fh3, Fd3, Fp3, Fs3, Ft3, Ah3, Ad3, Ap3, g03, gh3, gd3, gp3, n0h3, n0d3, n0p3, nhd3, nhp3, ndp3⟩⟩
theorem d11_39 : decode prog_64_method_6_code 39 = .ok (.aload_n 0, 1) := by decide +kernel
theorem d11_40 : decode prog_64_method_6_code 40 = .ok (.getfield 7, 3) := by decide +kernel
theorem d11_43 : decode prog_64_method_6_code 43 = .ok (.iconst 0, 1) := by decide +kernel
theorem d11_44 : decode prog_64_method_6_code 44 = .ok (.aload_n 0, 1) := by decide +kernel
theorem d11_45 : decode prog_64_method_6_code 45 = .ok (.getfield 7, 3) := by decide +kernel
theorem d11_48 : decode prog_64_method_6_code 48 = .ok (.aload_n 0, 1) := by decide +kernel
theorem d11_49 : decode prog_64_method_6_code 49 = .ok (.getfield 26, 3) := by decide +kernel
theorem d11_52 : decode prog_64_method_6_code 52 = .ok (.iaload, 1) := by decide +kernel
theorem d11_53 : decode prog_64_method_6_code 53 = .ok (.iastore, 1) := by decide +kernel
theorem d11_54 : decode prog_64_method_6_code 54 = .ok (.aload_n 0, 1) := by decide +kernel
theorem d11_55 : decode prog_64_method_6_code 55 = .ok (.getfield 17, 3) := by decide +kernel
theorem d11_58 : decode prog_64_method_6_code 58 = .ok (.aload_n 0, 1) := by decide +kernel
theorem d11_59 : decode prog_64_method_6_code 59 = .ok (.getfield 7, 3) := by decide +kernel
theorem d11_62 : decode prog_64_method_6_code 62 = .ok (.iconst 0, 1) := by decide +kernel
theorem d11_63 : decode prog_64_method_6_code 63 = .ok (.iaload, 1) := by decide +kernel
theorem d11_64 : decode prog_64_method_6_code 64 = .ok (.iconst 0, 1) := by decide +kernel
theorem d11_65 : decode prog_64_method_6_code 65 = .ok (.iastore, 1) := by decide +kernel
theorem d11_66 : decode prog_64_method_6_code 66 = .ok (.aload_n 0, 1) := by decide +kernel
theorem d11_67 : decode prog_64_method_6_code 67 = .ok (.iconst 0, 1) := by decide +kernel
theorem d11_68 : decode prog_64_method_6_code 68 = .ok (.invokevirtual 40, 3) := by decide +kernel
theorem ef_11t34 (m : MethodId) (x0 : Addr) : entryFrame m #[(.ref x0)] 2 = mkF m 0 #[.val (.ref x0), .unset] [] := by first | (simp [entryFrame, mkF, argsToLocals, Value.category]; done) | rfl
def Q11t34 (Z : State) (a0 : Addr) (bh bd bp : Addr) (x0 x1 : UInt64) (h0 : Heap) (n0 : Nat) (v : Option Value) (h : Heap) (L : List Loc) : Prop := v = some (.int (1 : Int32)) ∧ Fr n0 L ∧ Keep h0 h [a0, bh, bd, bp] ∧ own_st Z n0 h a0 bh bd bp (0 : Int32) (1 : Int32) (0 : Int32) (-2 : Int32) (1 : Int32) (1 : Int32) x0 x1
set_option maxRecDepth 65536 in
set_option maxHeartbeats 40000000 in
theorem rm11t34 (l : Launch) (Z : State) (aw : Array Value) (hw : ∀ d ∈ tables_1, d.before aw Z = true) (ws : List Jvm.Cond) (a0 : Addr) (bh bd bp : Addr) (x0 x1 : UInt64) (h0 : Heap) (n0 : Nat) (Z0 : n0 ≤ h0.size) (St : own_st Z n0 h0 a0 bh bd bp (1 : Int32) (0 : Int32) (1 : Int32) (0 : Int32) (2 : Int32) (0 : Int32) x0 x1) :
    MetFree l mpoll (head1 (Jvm.Cond.code mpoll prog_64_method_6_code 2 (some .int) :: ws) rO3) (fun a U => a = #[(.ref a0)] ∧ Z.Warmed39 U.vm ∧ U.heap = h0) (fun _ _ _ _ _ => True) (fun _ U o U' => ∃ v L, o = .returned v ∧ Q11t34 Z a0 bh bd bp x0 x1 h0 n0 v U'.heap L ∧ FrameEnd U o U' L rO3.cells rO3.slots) := by
  refine MetFree.of_bodySF (plainFor_of_name pn_1) hisR ?_
  intro p e s m args below meth c s₁ Bd hml0 hP hK
  obtain ⟨rfl, hZ, hh⟩ := hP
  have hx := Bd.exec
  have hby := Bd.bytes
  have hml : c.maxLocals = 2 := hml0
  have hown : s.vm.findClass "com/example/wayshard/wayshard/service/VertexQueue" = some m.cls := findClass_of_methodNamed Bd.named
  have hnm := (name_of_methodNamed Bd.named Bd.method).1
  have hlk : meth.locks = false := BodyLoose.notSynchronized Bd
  have X0 : Stand p l e rO3 s m #[(.ref a0)] below meth c s₁ [] 0 0 := Stand.of_body Bd
  have e0 : s₁.heap = h0 := by rw [← hh, Bd.state]; rfl
  have N0 := Fr.nil n0
  show Run p e s below (Q11t34 Z a0 bh bd bp x0 x1 h0 n0) rO3.cells rO3.slots s₁ (entryFrame m #[(.ref a0)] 2)
  rw [ef_11t34]
  obtain ⟨E, Fh, Fd, Fp, Fs, Ft, Ah, Ad, Ap, g0, gh, gd, gp, n0h, n0d, n0p, nhd, nhp, ndp⟩ := St
  show Run _ _ _ _ _ _ _ s₁ (mkF m 0 #[.val (.ref a0), .unset] [])
  refine go (T' := s₁) (f' := (mkF m 1 #[.val (.ref a0), .unset] [(.ref a0)])) (by intro t k; exact XS.aloadN X0.here hx rfl (hb hby d11_0) rfl rfl k) ?_
  obtain ⟨T1, X1, e1, st1⟩ := getF X0 hx hZ hown (host := "") (Or.inl (tw hw 30 rfl)) Via.refl e0 Fs (g := (mkF m 1 #[.val (.ref a0), .unset] [(.ref a0)])) rfl rfl (hb hby d11_1)
  refine go st1 ?_
  show Run _ _ _ _ _ _ _ T1 (mkF m 4 #[.val (.ref a0), .unset] [(.int (2 : Int32))])
  refine go (T' := T1) (f' := (mkF m 15 #[.val (.ref a0), .unset] [])) (by intro t k; exact XS.ifYes X1.here hx rfl (pc0 := 4) (pc' := 15) rfl (hb hby d11_4) rfl ((if0 _ _).trans (feq (by decide : ¬ ((2 : Int32) = (0 : Int32)))).2) (by decide) (by decide) k) ?_
  refine go (T' := T1) (f' := (mkF m 16 #[.val (.ref a0), .unset] [(.ref a0)])) (by intro t k; exact XS.aloadN X1.here hx rfl (hb hby d11_15) rfl rfl k) ?_
  obtain ⟨T2, X2, e2, st2⟩ := getF X1 hx hZ hown (host := "") (Or.inl (tw hw 10 rfl)) Via.refl e1 Fh (g := (mkF m 16 #[.val (.ref a0), .unset] [(.ref a0)])) rfl rfl (hb hby d11_16)
  refine go st2 ?_
  show Run _ _ _ _ _ _ _ T2 (mkF m 19 #[.val (.ref a0), .unset] [(.ref bh)])
  refine go (T' := T2) (f' := (mkF m 20 #[.val (.ref a0), .unset] [(.int (0 : Int32)), (.ref bh)])) (by intro t k; exact XS.iconst X2.here hx rfl (hb hby d11_19) k) ?_
  refine go (T' := T2) (f' := (mkF m 21 #[.val (.ref a0), .unset] [(.int (1 : Int32))])) (by intro t k; exact ldI X2 hx hZ e2 Ah (j := (0 : Int32)) (v := (.int (1 : Int32))) (by decide) rfl (g := (mkF m 20 #[.val (.ref a0), .unset] [(.int (0 : Int32)), (.ref bh)])) rfl rfl (hb hby d11_20) _ k) ?_
  refine go (T' := T2) (f' := (mkF m 22 #[.val (.ref a0), .val (.int (1 : Int32))] [])) (by intro t k; exact XS.istoreN X2.here hx rfl (hb hby d11_21) rfl (l' := #[.val (.ref a0), .val (.int (1 : Int32))]) rfl k) ?_
  refine go (T' := T2) (f' := (mkF m 23 #[.val (.ref a0), .val (.int (1 : Int32))] [(.ref a0)])) (by intro t k; exact XS.aloadN X2.here hx rfl (hb hby d11_22) rfl rfl k) ?_
  refine go (T' := T2) (f' := (mkF m 24 #[.val (.ref a0), .val (.int (1 : Int32))] [(.ref a0), (.ref a0)])) (by intro t k; exact XS.dup X2.here hx rfl (hb hby d11_23) rfl rfl k) ?_
  obtain ⟨T3, X3, e3, st3⟩ := getF X2 hx hZ hown (host := "") (Or.inl (tw hw 30 rfl)) Via.refl e2 Fs (g := (mkF m 24 #[.val (.ref a0), .val (.int (1 : Int32))] [(.ref a0), (.ref a0)])) rfl rfl (hb hby d11_24)
  refine go st3 ?_
  show Run _ _ _ _ _ _ _ T3 (mkF m 27 #[.val (.ref a0), .val (.int (1 : Int32))] [(.int (2 : Int32)), (.ref a0)])
  refine go (T' := T3) (f' := (mkF m 28 #[.val (.ref a0), .val (.int (1 : Int32))] [(.int (1 : Int32)), (.int (2 : Int32)), (.ref a0)])) (by intro t k; exact XS.iconst X3.here hx rfl (hb hby d11_27) k) ?_
  refine go (T' := T3) (f' := (mkF m 29 #[.val (.ref a0), .val (.int (1 : Int32))] [(.int (1 : Int32)), (.ref a0)])) (by intro t k; exact XS.isub X3.here hx rfl (hb hby d11_28) rfl k) ?_
  obtain ⟨T4, h4, X4, e4, W4, st4⟩ := putF X3 hx hZ hown (host := "") (Or.inl (tw hw 30 rfl)) Via.refl e3 Fs E (Or.inl (tw hw 31 rfl)) (tw hw 1 rfl) (ty := .int) (by decide) rfl rfl (g := (mkF m 29 #[.val (.ref a0), .val (.int (1 : Int32))] [(.int (1 : Int32)), (.ref a0)])) rfl rfl (hb hby d11_29)
  have K4 : Keep h0 h4 [a0] := Keep.of_wr W4
  have F4_a0_heap := Fld.other W4 Fh (Or.inr (slot_ne (Or.inr (tw hw 11 rfl)) (Or.inl (tw hw 31 rfl)) (by decide) (t := (.array .int)) (t' := .int) (by decide) (by decide)))
  have F4_a0_priorities := Fld.other W4 Fd (Or.inr (slot_ne (Or.inr (tw hw 14 rfl)) (Or.inl (tw hw 31 rfl)) (by decide) (t := (.array .double)) (t' := .int) (by decide) (by decide)))
  have F4_a0_places := Fld.other W4 Fp (Or.inr (slot_ne (Or.inr (tw hw 16 rfl)) (Or.inl (tw hw 31 rfl)) (by decide) (t := (.array .int)) (t' := .int) (by decide) (by decide)))
  have F4_a0_size : Fld Z h4 a0 "com/example/wayshard/wayshard/service/VertexQueue" "size" "I" (.int (1 : Int32)) := Fs.same W4
  have F4_a0_taken := Fld.other W4 Ft (Or.inr (slot_ne (Or.inl (tw hw 33 rfl)) (Or.inl (tw hw 31 rfl)) (by decide) (t := .int) (t' := .int) (by decide) (by decide)))
  have N4 := Fr.snoc X4 N0 g0
  have E4_a0 := Exa.keep E K4
  have A4_bh := Ary.keep Ah K4 (ninS (Ne.symm n0h) nin0)
  have A4_bd := Ary.keep Ad K4 (ninS (Ne.symm n0d) nin0)
  have A4_bp := Ary.keep Ap K4 (ninS (Ne.symm n0p) nin0)
  have Z4 : n0 ≤ h4.size := Nat.le_trans Z0 K4.1
  have KK4 : Keep h0 h4 [a0, bh, bd, bp] := (Keep.refl _ _).trans K4 (allS (Or.inl (List.mem_of_getElem? (i := 0) rfl)) all0)
  refine go st4 ?_
  show Run _ _ _ _ _ _ _ T4 (mkF m 32 #[.val (.ref a0), .val (.int (1 : Int32))] [])
  refine go (T' := T4) (f' := (mkF m 33 #[.val (.ref a0), .val (.int (1 : Int32))] [(.ref a0)])) (by intro t k; exact XS.aloadN X4.here hx rfl (hb hby d11_32) rfl rfl k) ?_
  obtain ⟨T5, X5, e5, st5⟩ := getF X4 hx hZ hown (host := "") (Or.inl (tw hw 30 rfl)) Via.refl e4 F4_a0_size (g := (mkF m 33 #[.val (.ref a0), .val (.int (1 : Int32))] [(.ref a0)])) rfl rfl (hb hby d11_33)
  refine go st5 ?_
  show Run _ _ _ _ _ _ _ T5 (mkF m 36 #[.val (.ref a0), .val (.int (1 : Int32))] [(.int (1 : Int32))])
  refine go (T' := T5) (f' := (mkF m 39 #[.val (.ref a0), .val (.int (1 : Int32))] [])) (by intro t k; exact XS.ifNo X5.here hx rfl (hb hby d11_36) rfl ((if0 _ _).trans (tlt (by decide : (0 : Int32) < (1 : Int32))).2.2.2) k) ?_
  refine go (T' := T5) (f' := (mkF m 40 #[.val (.ref a0), .val (.int (1 : Int32))] [(.ref a0)])) (by intro t k; exact XS.aloadN X5.here hx rfl (hb hby d11_39) rfl rfl k) ?_
  obtain ⟨T6, X6, e6, st6⟩ := getF X5 hx hZ hown (host := "") (Or.inl (tw hw 10 rfl)) Via.refl e5 F4_a0_heap (g := (mkF m 40 #[.val (.ref a0), .val (.int (1 : Int32))] [(.ref a0)])) rfl rfl (hb hby d11_40)
  refine go st6 ?_
  show Run _ _ _ _ _ _ _ T6 (mkF m 43 #[.val (.ref a0), .val (.int (1 : Int32))] [(.ref bh)])
  refine go (T' := T6) (f' := (mkF m 44 #[.val (.ref a0), .val (.int (1 : Int32))] [(.int (0 : Int32)), (.ref bh)])) (by intro t k; exact XS.iconst X6.here hx rfl (hb hby d11_43) k) ?_
  refine go (T' := T6) (f' := (mkF m 45 #[.val (.ref a0), .val (.int (1 : Int32))] [(.ref a0), (.int (0 : Int32)), (.ref bh)])) (by intro t k; exact XS.aloadN X6.here hx rfl (hb hby d11_44) rfl rfl k) ?_
  obtain ⟨T7, X7, e7, st7⟩ := getF X6 hx hZ hown (host := "") (Or.inl (tw hw 10 rfl)) Via.refl e6 F4_a0_heap (g := (mkF m 45 #[.val (.ref a0), .val (.int (1 : Int32))] [(.ref a0), (.int (0 : Int32)), (.ref bh)])) rfl rfl (hb hby d11_45)
  refine go st7 ?_
  show Run _ _ _ _ _ _ _ T7 (mkF m 48 #[.val (.ref a0), .val (.int (1 : Int32))] [(.ref bh), (.int (0 : Int32)), (.ref bh)])
  refine go (T' := T7) (f' := (mkF m 49 #[.val (.ref a0), .val (.int (1 : Int32))] [(.ref a0), (.ref bh), (.int (0 : Int32)), (.ref bh)])) (by intro t k; exact XS.aloadN X7.here hx rfl (hb hby d11_48) rfl rfl k) ?_
  obtain ⟨T8, X8, e8, st8⟩ := getF X7 hx hZ hown (host := "") (Or.inl (tw hw 30 rfl)) Via.refl e7 F4_a0_size (g := (mkF m 49 #[.val (.ref a0), .val (.int (1 : Int32))] [(.ref a0), (.ref bh), (.int (0 : Int32)), (.ref bh)])) rfl rfl (hb hby d11_49)
  refine go st8 ?_
  show Run _ _ _ _ _ _ _ T8 (mkF m 52 #[.val (.ref a0), .val (.int (1 : Int32))] [(.int (1 : Int32)), (.ref bh), (.int (0 : Int32)), (.ref bh)])
  refine go (T' := T8) (f' := (mkF m 53 #[.val (.ref a0), .val (.int (1 : Int32))] [(.int (0 : Int32)), (.int (0 : Int32)), (.ref bh)])) (by intro t k; exact ldI X8 hx hZ e8 A4_bh (j := (1 : Int32)) (v := (.int (0 : Int32))) (by decide) rfl (g := (mkF m 52 #[.val (.ref a0), .val (.int (1 : Int32))] [(.int (1 : Int32)), (.ref bh), (.int (0 : Int32)), (.ref bh)])) rfl rfl (hb hby d11_52) _ k) ?_
  obtain ⟨cl9, Ar9, hin9⟩ := Ary.st (j := (0 : Int32)) A4_bh (by decide) (by show (0 : Int32).toNatClampNeg < 2; decide)
  obtain ⟨T9, h9, X9, e9, W9, st9⟩ := stI X8 hx hZ e8 Ar9 (j := (0 : Int32)) hin9 (g := (mkF m 53 #[.val (.ref a0), .val (.int (1 : Int32))] [(.int (0 : Int32)), (.int (0 : Int32)), (.ref bh)])) rfl rfl (hb hby d11_53)
  have K9 : Keep h4 h9 [bh] := Keep.of_wr W9
  have V9 : Ary Z h9 bh .int [(.int (0 : Int32)), (.int (0 : Int32))] := Ary.set A4_bh W9 rfl
  have N9 := Fr.snoc X9 N4 gh
  have E9_a0 := Exa.keep E4_a0 K9
  have F9_a0_heap := Fld.keep F4_a0_heap K9 (ninS n0h nin0)
  have F9_a0_priorities := Fld.keep F4_a0_priorities K9 (ninS n0h nin0)
  have F9_a0_places := Fld.keep F4_a0_places K9 (ninS n0h nin0)
  have F9_a0_size := Fld.keep F4_a0_size K9 (ninS n0h nin0)
  have F9_a0_taken := Fld.keep F4_a0_taken K9 (ninS n0h nin0)
  have A9_bd := Ary.keep A4_bd K9 (ninS (Ne.symm nhd) nin0)
  have A9_bp := Ary.keep A4_bp K9 (ninS (Ne.symm nhp) nin0)
  have Z9 : n0 ≤ h9.size := Nat.le_trans Z4 K9.1
  have KK9 : Keep h0 h9 [a0, bh, bd, bp] := KK4.trans K9 (allS (Or.inl (List.mem_of_getElem? (i := 1) rfl)) all0)
  refine go st9 ?_
  show Run _ _ _ _ _ _ _ T9 (mkF m 54 #[.val (.ref a0), .val (.int (1 : Int32))] [])
  refine go (T' := T9) (f' := (mkF m 55 #[.val (.ref a0), .val (.int (1 : Int32))] [(.ref a0)])) (by intro t k; exact XS.aloadN X9.here hx rfl (hb hby d11_54) rfl rfl k) ?_
  obtain ⟨T10, X10, e10, st10⟩ := getF X9 hx hZ hown (host := "") (Or.inl (tw hw 15 rfl)) Via.refl e9 F9_a0_places (g := (mkF m 55 #[.val (.ref a0), .val (.int (1 : Int32))] [(.ref a0)])) rfl rfl (hb hby d11_55)
  refine go st10 ?_
  show Run _ _ _ _ _ _ _ T10 (mkF m 58 #[.val (.ref a0), .val (.int (1 : Int32))] [(.ref bp)])
  refine go (T' := T10) (f' := (mkF m 59 #[.val (.ref a0), .val (.int (1 : Int32))] [(.ref a0), (.ref bp)])) (by intro t k; exact XS.aloadN X10.here hx rfl (hb hby d11_58) rfl rfl k) ?_
  obtain ⟨T11, X11, e11, st11⟩ := getF X10 hx hZ hown (host := "") (Or.inl (tw hw 10 rfl)) Via.refl e10 F9_a0_heap (g := (mkF m 59 #[.val (.ref a0), .val (.int (1 : Int32))] [(.ref a0), (.ref bp)])) rfl rfl (hb hby d11_59)
  refine go st11 ?_
  show Run _ _ _ _ _ _ _ T11 (mkF m 62 #[.val (.ref a0), .val (.int (1 : Int32))] [(.ref bh), (.ref bp)])
  refine go (T' := T11) (f' := (mkF m 63 #[.val (.ref a0), .val (.int (1 : Int32))] [(.int (0 : Int32)), (.ref bh), (.ref bp)])) (by intro t k; exact XS.iconst X11.here hx rfl (hb hby d11_62) k) ?_
  refine go (T' := T11) (f' := (mkF m 64 #[.val (.ref a0), .val (.int (1 : Int32))] [(.int (0 : Int32)), (.ref bp)])) (by intro t k; exact ldI X11 hx hZ e11 V9 (j := (0 : Int32)) (v := (.int (0 : Int32))) (by decide) rfl (g := (mkF m 63 #[.val (.ref a0), .val (.int (1 : Int32))] [(.int (0 : Int32)), (.ref bh), (.ref bp)])) rfl rfl (hb hby d11_63) _ k) ?_
  refine go (T' := T11) (f' := (mkF m 65 #[.val (.ref a0), .val (.int (1 : Int32))] [(.int (0 : Int32)), (.int (0 : Int32)), (.ref bp)])) (by intro t k; exact XS.iconst X11.here hx rfl (hb hby d11_64) k) ?_
  obtain ⟨cl12, Ar12, hin12⟩ := Ary.st (j := (0 : Int32)) A9_bp (by decide) (by show (0 : Int32).toNatClampNeg < 2; decide)
  obtain ⟨T12, h12, X12, e12, W12, st12⟩ := stI X11 hx hZ e11 Ar12 (j := (0 : Int32)) hin12 (g := (mkF m 65 #[.val (.ref a0), .val (.int (1 : Int32))] [(.int (0 : Int32)), (.int (0 : Int32)), (.ref bp)])) rfl rfl (hb hby d11_65)
  have K12 : Keep h9 h12 [bp] := Keep.of_wr W12
  have V12 : Ary Z h12 bp .int [(.int (0 : Int32)), (.int (0 : Int32))] := Ary.set A9_bp W12 rfl
  have N12 := Fr.snoc X12 N9 gp
  have E12_a0 := Exa.keep E9_a0 K12
  have F12_a0_heap := Fld.keep F9_a0_heap K12 (ninS n0p nin0)
  have F12_a0_priorities := Fld.keep F9_a0_priorities K12 (ninS n0p nin0)
  have F12_a0_places := Fld.keep F9_a0_places K12 (ninS n0p nin0)
  have F12_a0_size := Fld.keep F9_a0_size K12 (ninS n0p nin0)
  have F12_a0_taken := Fld.keep F9_a0_taken K12 (ninS n0p nin0)
  have A12_bh := Ary.keep V9 K12 (ninS nhp nin0)
  have A12_bd := Ary.keep A9_bd K12 (ninS ndp nin0)
  have Z12 : n0 ≤ h12.size := Nat.le_trans Z9 K12.1
  have KK12 : Keep h0 h12 [a0, bh, bd, bp] := KK9.trans K12 (allS (Or.inl (List.mem_of_getElem? (i := 3) rfl)) all0)
  refine go st12 ?_
  show Run _ _ _ _ _ _ _ T12 (mkF m 66 #[.val (.ref a0), .val (.int (1 : Int32))] [])
  refine go (T' := T12) (f' := (mkF m 67 #[.val (.ref a0), .val (.int (1 : Int32))] [(.ref a0)])) (by intro t k; exact XS.aloadN X12.here hx rfl (hb hby d11_66) rfl rfl k) ?_
  refine go (T' := T12) (f' := (mkF m 68 #[.val (.ref a0), .val (.int (1 : Int32))] [(.int (0 : Int32)), (.ref a0)])) (by intro t k; exact XS.iconst X12.here hx rfl (hb hby d11_67) k) ?_
  obtain ⟨cq13, q13, q13'⟩ := (E12_a0).cell
  obtain ⟨_, _, ⟨T13, Lz13, kz13, nz13⟩, -, X13, ⟨Lc13, hQ13, lz13, yz13, zz13⟩, st13⟩ := X12.privateBack hx (y := msiftDown) hown (mvT hZ (tw hw 62 rfl)) (mvT hZ (tw hw 63 rfl)) (selP (y := msiftDown) (mvT hZ (tw hw 1 rfl)) (Cond.privateMethod_at (mvP hZ (tw hw 64 rfl) (args := #[]))) (mvT hZ (tw hw 63 rfl)) (by decide)) (Cond.privateMethod_at (mvP hZ (tw hw 64 rfl) (args := #[]))) (mvT hZ (tw hw 65 rfl)) (by decide) (backOf (W := 0) (rm12t35 l Z aw hw [] a0 bh bd bp x0 x1  h12 n0 Z12 ⟨E12_a0, F12_a0_heap, F12_a0_priorities, F12_a0_places, F12_a0_size, F12_a0_taken, A12_bh, A12_bd, V12, g0, gh, gd, gp, n0h, n0d, n0p, nhd, nhp, ndp⟩) hZ (tw hw 65 rfl) (tw hw 2 rfl) (by decide) (by decide)) (g := (mkF m 68 #[.val (.ref a0), .val (.int (1 : Int32))] [(.int (0 : Int32)), (.ref a0)])) rfl (by rw [hml]; rfl) (Steps.refl _) (a := a0) (by rw [e12]; exact q13) q13' (argsL := [(.int (0 : Int32))]) (rest := []) (lenOf pd_28I29V rfl) rfl (by show 2 * 0 + _ ≤ _; exact Nat.le_of_eq rfl) (hb hby d11_68) (fun _ _ => ⟨rfl, e12, (by decide : 0 + 0 ≤ _), (by decide : 0 + 0 ≤ _)⟩)
  dsimp only [Pt.U, Pt.locs, Pt.cells, Pt.slots] at X13 lz13 yz13 zz13 st13 hQ13
  subst lz13 yz13 zz13
  obtain ⟨rfl, N13q, K13, hD13⟩ := hQ13
  have E13_a0 := Exa.keep E12_a0 K13
  have Z13 : n0 ≤ T13.heap.size := Nat.le_trans Z12 K13.1
  have KK13 : Keep h0 T13.heap [a0, bh, bd, bp] := KK12.trans K13 (allS (Or.inl (List.mem_of_getElem? (i := 0) rfl)) (allS (Or.inl (List.mem_of_getElem? (i := 1) rfl)) (allS (Or.inl (List.mem_of_getElem? (i := 2) rfl)) (allS (Or.inl (List.mem_of_getElem? (i := 3) rfl)) all0))))
  obtain ⟨E13, Fh13, Fd13, Fp13, Fs13, Ft13, Ah13, Ad13, Ap13, g013, gh13, gd13, gp13, n0h13, n0d13, n0p13, nhd13, nhp13, ndp13⟩ := hD13
  have N13 := Fr.app N12 N13q
  refine go (fun _ k => st13.trans k) ?_
  show Run _ _ _ _ _ _ _ T13 (mkF m 71 #[.val (.ref a0), .val (.int (1 : Int32))] [])
  refine go (T' := T13) (f' := (mkF m 72 #[.val (.ref a0), .val (.int (1 : Int32))] [(.ref a0)])) (by intro t k; exact XS.aloadN X13.here hx rfl (hb hby d11_71) rfl rfl k) ?_
  refine go (T' := T13) (f' := (mkF m 73 #[.val (.ref a0), .val (.int (1 : Int32))] [(.ref a0), (.ref a0)])) (by intro t k; exact XS.dup X13.here hx rfl (hb hby d11_72) rfl rfl k) ?_
  obtain ⟨T14, X14, e14, st14⟩ := getF X13 hx hZ hown (host := "") (Or.inl (tw hw 32 rfl)) Via.refl rfl Ft13 (g := (mkF m 73 #[.val (.ref a0), .val (.int (1 : Int32))] [(.ref a0), (.ref a0)])) rfl rfl (hb hby d11_73)
  refine go st14 ?_
  show Run _ _ _ _ _ _ _ T14 (mkF m 76 #[.val (.ref a0), .val (.int (1 : Int32))] [(.int (0 : Int32)), (.ref a0)])
  refine go (T' := T14) (f' := (mkF m 77 #[.val (.ref a0), .val (.int (1 : Int32))] [(.int (1 : Int32)), (.int (0 : Int32)), (.ref a0)])) (by intro t k; exact XS.iconst X14.here hx rfl (hb hby d11_76) k) ?_
  refine go (T' := T14) (f' := (mkF m 78 #[.val (.ref a0), .val (.int (1 : Int32))] [(.int (1 : Int32)), (.ref a0)])) (by intro t k; exact XS.iadd X14.here hx rfl (hb hby d11_77) rfl k) ?_
  obtain ⟨T15, h15, X15, e15, W15, st15⟩ := putF X14 hx hZ hown (host := "") (Or.inl (tw hw 32 rfl)) Via.refl e14 Ft13 E13 (Or.inl (tw hw 33 rfl)) (tw hw 1 rfl) (ty := .int) (by decide) rfl rfl (g := (mkF m 78 #[.val (.ref a0), .val (.int (1 : Int32))] [(.int (1 : Int32)), (.ref a0)])) rfl rfl (hb hby d11_78)
  have K15 : Keep T13.heap h15 [a0] := Keep.of_wr W15
  have F15_a0_heap := Fld.other W15 Fh13 (Or.inr (slot_ne (Or.inr (tw hw 11 rfl)) (Or.inl (tw hw 33 rfl)) (by decide) (t := (.array .int)) (t' := .int) (by decide) (by decide)))
  have F15_a0_priorities := Fld.other W15 Fd13 (Or.inr (slot_ne (Or.inr (tw hw 14 rfl)) (Or.inl (tw hw 33 rfl)) (by decide) (t := (.array .double)) (t' := .int) (by decide) (by decide)))
  have F15_a0_places := Fld.other W15 Fp13 (Or.inr (slot_ne (Or.inr (tw hw 16 rfl)) (Or.inl (tw hw 33 rfl)) (by decide) (t := (.array .int)) (t' := .int) (by decide) (by decide)))
  have F15_a0_size := Fld.other W15 Fs13 (Or.inr (slot_ne (Or.inl (tw hw 31 rfl)) (Or.inl (tw hw 33 rfl)) (by decide) (t := .int) (t' := .int) (by decide) (by decide)))
  have F15_a0_taken : Fld Z h15 a0 "com/example/wayshard/wayshard/service/VertexQueue" "taken" "I" (.int (1 : Int32)) := Ft13.same W15
  have N15 := Fr.snoc X15 N13 g013
  have E15_a0 := Exa.keep E13 K15
  have A15_bh := Ary.keep Ah13 K15 (ninS (Ne.symm n0h13) nin0)
  have A15_bd := Ary.keep Ad13 K15 (ninS (Ne.symm n0d13) nin0)
  have A15_bp := Ary.keep Ap13 K15 (ninS (Ne.symm n0p13) nin0)
  have Z15 : n0 ≤ h15.size := Nat.le_trans Z13 K15.1
  have KK15 : Keep h0 h15 [a0, bh, bd, bp] := KK13.trans K15 (allS (Or.inl (List.mem_of_getElem? (i := 0) rfl)) all0)
  refine go st15 ?_
  show Run _ _ _ _ _ _ _ T15 (mkF m 81 #[.val (.ref a0), .val (.int (1 : Int32))] [])
  refine go (T' := T15) (f' := (mkF m 82 #[.val (.ref a0), .val (.int (1 : Int32))] [(.ref a0)])) (by intro t k; exact XS.aloadN X15.here hx rfl (hb hby d11_81) rfl rfl k) ?_
  obtain ⟨T16, X16, e16, st16⟩ := getF X15 hx hZ hown (host := "") (Or.inl (tw hw 10 rfl)) Via.refl e15 F15_a0_heap (g := (mkF m 82 #[.val (.ref a0), .val (.int (1 : Int32))] [(.ref a0)])) rfl rfl (hb hby d11_82)
  refine go st16 ?_
  show Run _ _ _ _ _ _ _ T16 (mkF m 85 #[.val (.ref a0), .val (.int (1 : Int32))] [(.ref bh)])
  refine go (T' := T16) (f' := (mkF m 86 #[.val (.ref a0), .val (.int (1 : Int32))] [(.ref a0), (.ref bh)])) (by intro t k; exact XS.aloadN X16.here hx rfl (hb hby d11_85) rfl rfl k) ?_
  obtain ⟨T17, X17, e17, st17⟩ := getF X16 hx hZ hown (host := "") (Or.inl (tw hw 10 rfl)) Via.refl e16 F15_a0_heap (g := (mkF m 86 #[.val (.ref a0), .val (.int (1 : Int32))] [(.ref a0), (.ref bh)])) rfl rfl (hb hby d11_86)
  refine go st17 ?_
  show Run _ _ _ _ _ _ _ T17 (mkF m 89 #[.val (.ref a0), .val (.int (1 : Int32))] [(.ref bh), (.ref bh)])
  refine go (T' := T17) (f' := (mkF m 90 #[.val (.ref a0), .val (.int (1 : Int32))] [(.int (2 : Int32)), (.ref bh)])) (by intro t k; exact alen X17 hx hZ e17 A15_bh (z := (2 : Int32)) rfl (g := (mkF m 89 #[.val (.ref a0), .val (.int (1 : Int32))] [(.ref bh), (.ref bh)])) rfl rfl (hb hby d11_89) _ k) ?_
  refine go (T' := T17) (f' := (mkF m 91 #[.val (.ref a0), .val (.int (1 : Int32))] [(.ref a0), (.int (2 : Int32)), (.ref bh)])) (by intro t k; exact XS.aloadN X17.here hx rfl (hb hby d11_90) rfl rfl k) ?_
  obtain ⟨T18, X18, e18, st18⟩ := getF X17 hx hZ hown (host := "") (Or.inl (tw hw 32 rfl)) Via.refl e17 F15_a0_taken (g := (mkF m 91 #[.val (.ref a0), .val (.int (1 : Int32))] [(.ref a0), (.int (2 : Int32)), (.ref bh)])) rfl rfl (hb hby d11_91)
  refine go st18 ?_
  show Run _ _ _ _ _ _ _ T18 (mkF m 94 #[.val (.ref a0), .val (.int (1 : Int32))] [(.int (1 : Int32)), (.int (2 : Int32)), (.ref bh)])
  refine go (T' := T18) (f' := (mkF m 95 #[.val (.ref a0), .val (.int (1 : Int32))] [(.int (1 : Int32)), (.ref bh)])) (by intro t k; exact XS.isub X18.here hx rfl (hb hby d11_94) rfl k) ?_
  refine go (T' := T18) (f' := (mkF m 96 #[.val (.ref a0), .val (.int (1 : Int32))] [(.int (1 : Int32)), (.int (1 : Int32)), (.ref bh)])) (by intro t k; exact XS.iloadN X18.here hx rfl (hb hby d11_95) rfl k) ?_
  obtain ⟨cl19, Ar19, hin19⟩ := Ary.st (j := (1 : Int32)) A15_bh (by decide) (by show (1 : Int32).toNatClampNeg < 2; decide)
  obtain ⟨T19, h19, X19, e19, W19, st19⟩ := stI X18 hx hZ e18 Ar19 (j := (1 : Int32)) hin19 (g := (mkF m 96 #[.val (.ref a0), .val (.int (1 : Int32))] [(.int (1 : Int32)), (.int (1 : Int32)), (.ref bh)])) rfl rfl (hb hby d11_96)
  have K19 : Keep h15 h19 [bh] := Keep.of_wr W19
  have V19 : Ary Z h19 bh .int [(.int (0 : Int32)), (.int (1 : Int32))] := Ary.set A15_bh W19 rfl
  have N19 := Fr.snoc X19 N15 gh13
  have E19_a0 := Exa.keep E15_a0 K19
  have F19_a0_heap := Fld.keep F15_a0_heap K19 (ninS n0h13 nin0)
  have F19_a0_priorities := Fld.keep F15_a0_priorities K19 (ninS n0h13 nin0)
  have F19_a0_places := Fld.keep F15_a0_places K19 (ninS n0h13 nin0)
  have F19_a0_size := Fld.keep F15_a0_size K19 (ninS n0h13 nin0)
  have F19_a0_taken := Fld.keep F15_a0_taken K19 (ninS n0h13 nin0)
  have A19_bd := Ary.keep A15_bd K19 (ninS (Ne.symm nhd13) nin0)
  have A19_bp := Ary.keep A15_bp K19 (ninS (Ne.symm nhp13) nin0)
  have Z19 : n0 ≤ h19.size := Nat.le_trans Z15 K19.1
  have KK19 : Keep h0 h19 [a0, bh, bd, bp] := KK15.trans K19 (allS (Or.inl (List.mem_of_getElem? (i := 1) rfl)) all0)
  refine go st19 ?_
  show Run _ _ _ _ _ _ _ T19 (mkF m 97 #[.val (.ref a0), .val (.int (1 : Int32))] [])
  refine go (T' := T19) (f' := (mkF m 98 #[.val (.ref a0), .val (.int (1 : Int32))] [(.ref a0)])) (by intro t k; exact XS.aloadN X19.here hx rfl (hb hby d11_97) rfl rfl k) ?_
  obtain ⟨T20, X20, e20, st20⟩ := getF X19 hx hZ hown (host := "") (Or.inl (tw hw 15 rfl)) Via.refl e19 F19_a0_places (g := (mkF m 98 #[.val (.ref a0), .val (.int (1 : Int32))] [(.ref a0)])) rfl rfl (hb hby d11_98)
  refine go st20 ?_
  show Run _ _ _ _ _ _ _ T20 (mkF m 101 #[.val (.ref a0), .val (.int (1 : Int32))] [(.ref bp)])
  refine go (T' := T20) (f' := (mkF m 102 #[.val (.ref a0), .val (.int (1 : Int32))] [(.int (1 : Int32)), (.ref bp)])) (by intro t k; exact XS.iloadN X20.here hx rfl (hb hby d11_101) rfl k) ?_
  refine go (T' := T20) (f' := (mkF m 104 #[.val (.ref a0), .val (.int (1 : Int32))] [(.int (-2 : Int32)), (.int (1 : Int32)), (.ref bp)])) (by intro t k; exact XS.bipush X20.here hx rfl (hb hby d11_102) k) ?_
  obtain ⟨cl21, Ar21, hin21⟩ := Ary.st (j := (1 : Int32)) A19_bp (by decide) (by show (1 : Int32).toNatClampNeg < 2; decide)
  obtain ⟨T21, h21, X21, e21, W21, st21⟩ := stI X20 hx hZ e20 Ar21 (j := (1 : Int32)) hin21 (g := (mkF m 104 #[.val (.ref a0), .val (.int (1 : Int32))] [(.int (-2 : Int32)), (.int (1 : Int32)), (.ref bp)])) rfl rfl (hb hby d11_104)
  have K21 : Keep h19 h21 [bp] := Keep.of_wr W21
  have V21 : Ary Z h21 bp .int [(.int (0 : Int32)), (.int (-2 : Int32))] := Ary.set A19_bp W21 rfl
  have N21 := Fr.snoc X21 N19 gp13
  have E21_a0 := Exa.keep E19_a0 K21
  have F21_a0_heap := Fld.keep F19_a0_heap K21 (ninS n0p13 nin0)
  have F21_a0_priorities := Fld.keep F19_a0_priorities K21 (ninS n0p13 nin0)
  have F21_a0_places := Fld.keep F19_a0_places K21 (ninS n0p13 nin0)
  have F21_a0_size := Fld.keep F19_a0_size K21 (ninS n0p13 nin0)
  have F21_a0_taken := Fld.keep F19_a0_taken K21 (ninS n0p13 nin0)
  have A21_bh := Ary.keep V19 K21 (ninS nhp13 nin0)
  have A21_bd := Ary.keep A19_bd K21 (ninS ndp13 nin0)
  have Z21 : n0 ≤ h21.size := Nat.le_trans Z19 K21.1
  have KK21 : Keep h0 h21 [a0, bh, bd, bp] := KK19.trans K21 (allS (Or.inl (List.mem_of_getElem? (i := 3) rfl)) all0)
  refine go st21 ?_
  show Run _ _ _ _ _ _ _ T21 (mkF m 105 #[.val (.ref a0), .val (.int (1 : Int32))] [])
  refine go (T' := T21) (f' := (mkF m 106 #[.val (.ref a0), .val (.int (1 : Int32))] [(.int (1 : Int32))])) (by intro t k; exact XS.iloadN X21.here hx rfl (hb hby d11_105) rfl k) ?_
  refine retW X21 hx (t := .int) Bd.returns rfl (Or.inl ⟨rfl, Or.inl rfl, _, rfl⟩) (hb hby d11_106) hlk (by decide) (by decide) ?_
  show Q11t34 Z a0 bh bd bp x0 x1 h0 n0 _ T21.heap _
  rw [e21]
  have hv : (some (.int (1 : Int32)) : Option Value) = some (.int (1 : Int32)) := rfl
  exact ⟨hv, N21, KK21, ⟨E21_a0, F21_a0_heap, F21_a0_priorities, F21_a0_places, F21_a0_size, F21_a0_taken, A21_bh, A21_bd, V21, g013, gh13, gd13, gp13, n0h13, n0d13, n0p13, nhd13, nhp13, ndp13⟩⟩
theorem ef_5t37 (m : MethodId) (x0 : Addr) : entryFrame m #[(.ref x0)] 2 = mkF m 0 #[.val (.ref x0), .unset] [] := by first | (simp [entryFrame, mkF, argsToLocals, Value.category]; done) | rfl
def Q5t37 (Z : State) (a0 : Addr) (bh bd bp : Addr) (x0 x1 : UInt64) (h0 : Heap) (n0 : Nat) (v : Option Value) (h : Heap) (L : List Loc) : Prop := v = none ∧ Fr n0 L ∧ Keep h0 h [a0, bh, bd, bp] ∧ own_st Z n0 h a0 bh bd bp (0 : Int32) (1 : Int32) (-1 : Int32) (-1 : Int32) (0 : Int32) (0 : Int32) x0 x1
set_option maxRecDepth 65536 in
set_option maxHeartbeats 40000000 in
theorem rm5t37 (l : Launch) (Z : State) (aw : Array Value) (hw : ∀ d ∈ tables_1, d.before aw Z = true) (ws : List Jvm.Cond) (a0 : Addr) (bh bd bp : Addr) (x0 x1 : UInt64) (h0 : Heap) (n0 : Nat) (Z0 : n0 ≤ h0.size) (St : own_st Z n0 h0 a0 bh bd bp (0 : Int32) (1 : Int32) (0 : Int32) (-2 : Int32) (1 : Int32) (1 : Int32) x0 x1) :
    MetFree l mclear (head1 (Jvm.Cond.code mclear prog_64_method_3_code 2 none :: ws) rO0) (fun a U => a = #[(.ref a0)] ∧ Z.Warmed39 U.vm ∧ U.heap = h0) (fun _ _ _ _ _ => True) (fun _ U o U' => ∃ v L, o = .returned v ∧ Q5t37 Z a0 bh bd bp x0 x1 h0 n0 v U'.heap L ∧ FrameEnd U o U' L rO0.cells rO0.slots) := by
  refine MetFree.of_bodySF (plainFor_of_name pn_1) hisR ?_
  intro p e s m args below meth c s₁ Bd hml0 hP hK
  obtain ⟨rfl, hZ, hh⟩ := hP
  have hx := Bd.exec
  have hby := Bd.bytes
  have hml : c.maxLocals = 2 := hml0
  have hown : s.vm.findClass "com/example/wayshard/wayshard/service/VertexQueue" = some m.cls := findClass_of_methodNamed Bd.named
  have hnm := (name_of_methodNamed Bd.named Bd.method).1
  have hlk : meth.locks = false := BodyLoose.notSynchronized Bd
  have X0 : Stand p l e rO0 s m #[(.ref a0)] below meth c s₁ [] 0 0 := Stand.of_body Bd
  have e0 : s₁.heap = h0 := by rw [← hh, Bd.state]; rfl
  have N0 := Fr.nil n0
  show Run p e s below (Q5t37 Z a0 bh bd bp x0 x1 h0 n0) rO0.cells rO0.slots s₁ (entryFrame m #[(.ref a0)] 2)
  rw [ef_5t37]
  obtain ⟨E, Fh, Fd, Fp, Fs, Ft, Ah, Ad, Ap, g0, gh, gd, gp, n0h, n0d, n0p, nhd, nhp, ndp⟩ := St
  show Run _ _ _ _ _ _ _ s₁ (mkF m 0 #[.val (.ref a0), .unset] [])
  refine go (T' := s₁) (f' := (mkF m 1 #[.val (.ref a0), .unset] [(.int (0 : Int32))])) (by intro t k; exact XS.iconst X0.here hx rfl (hb hby d5_0) k) ?_
  refine go (T' := s₁) (f' := (mkF m 2 #[.val (.ref a0), .val (.int (0 : Int32))] [])) (by intro t k; exact XS.istoreN X0.here hx rfl (hb hby d5_1) rfl (l' := #[.val (.ref a0), .val (.int (0 : Int32))]) rfl k) ?_
  refine go (T' := s₁) (f' := (mkF m 3 #[.val (.ref a0), .val (.int (0 : Int32))] [(.int (0 : Int32))])) (by intro t k; exact XS.iloadN X0.here hx rfl (hb hby d5_2) rfl k) ?_
  refine go (T' := s₁) (f' := (mkF m 4 #[.val (.ref a0), .val (.int (0 : Int32))] [(.ref a0), (.int (0 : Int32))])) (by intro t k; exact XS.aloadN X0.here hx rfl (hb hby d5_3) rfl rfl k) ?_
  obtain ⟨T1, X1, e1, st1⟩ := getF X0 hx hZ hown (host := "") (Or.inl (tw hw 30 rfl)) Via.refl e0 Fs (g := (mkF m 4 #[.val (.ref a0), .val (.int (0 : Int32))] [(.ref a0), (.int (0 : Int32))])) rfl rfl (hb hby d5_4)
  refine go st1 ?_
  show Run _ _ _ _ _ _ _ T1 (mkF m 7 #[.val (.ref a0), .val (.int (0 : Int32))] [(.int (1 : Int32)), (.int (0 : Int32))])
  refine go (T' := T1) (f' := (mkF m 10 #[.val (.ref a0), .val (.int (0 : Int32))] [])) (by intro t k; exact XS.icmpNo X1.here hx rfl (hb hby d5_7) rfl (tlt (by decide : (0 : Int32) < (1 : Int32))).2.1 k) ?_
  refine go (T' := T1) (f' := (mkF m 11 #[.val (.ref a0), .val (.int (0 : Int32))] [(.ref a0)])) (by intro t k; exact XS.aloadN X1.here hx rfl (hb hby d5_10) rfl rfl k) ?_
  obtain ⟨T2, X2, e2, st2⟩ := getF X1 hx hZ hown (host := "") (Or.inl (tw hw 15 rfl)) Via.refl e1 Fp (g := (mkF m 11 #[.val (.ref a0), .val (.int (0 : Int32))] [(.ref a0)])) rfl rfl (hb hby d5_11)
  refine go st2 ?_
  show Run _ _ _ _ _ _ _ T2 (mkF m 14 #[.val (.ref a0), .val (.int (0 : Int32))] [(.ref bp)])
  refine go (T' := T2) (f' := (mkF m 15 #[.val (.ref a0), .val (.int (0 : Int32))] [(.ref a0), (.ref bp)])) (by intro t k; exact XS.aloadN X2.here hx rfl (hb hby d5_14) rfl rfl k) ?_
  obtain ⟨T3, X3, e3, st3⟩ := getF X2 hx hZ hown (host := "") (Or.inl (tw hw 10 rfl)) Via.refl e2 Fh (g := (mkF m 15 #[.val (.ref a0), .val (.int (0 : Int32))] [(.ref a0), (.ref bp)])) rfl rfl (hb hby d5_15)
  refine go st3 ?_
  show Run _ _ _ _ _ _ _ T3 (mkF m 18 #[.val (.ref a0), .val (.int (0 : Int32))] [(.ref bh), (.ref bp)])
  refine go (T' := T3) (f' := (mkF m 19 #[.val (.ref a0), .val (.int (0 : Int32))] [(.int (0 : Int32)), (.ref bh), (.ref bp)])) (by intro t k; exact XS.iloadN X3.here hx rfl (hb hby d5_18) rfl k) ?_
  refine go (T' := T3) (f' := (mkF m 20 #[.val (.ref a0), .val (.int (0 : Int32))] [(.int (0 : Int32)), (.ref bp)])) (by intro t k; exact ldI X3 hx hZ e3 Ah (j := (0 : Int32)) (v := (.int (0 : Int32))) (by decide) rfl (g := (mkF m 19 #[.val (.ref a0), .val (.int (0 : Int32))] [(.int (0 : Int32)), (.ref bh), (.ref bp)])) rfl rfl (hb hby d5_19) _ k) ?_
  refine go (T' := T3) (f' := (mkF m 21 #[.val (.ref a0), .val (.int (0 : Int32))] [(.int (-1 : Int32)), (.int (0 : Int32)), (.ref bp)])) (by intro t k; exact XS.iconst X3.here hx rfl (hb hby d5_20) k) ?_
  obtain ⟨cl4, Ar4, hin4⟩ := Ary.st (j := (0 : Int32)) Ap (by decide) (by show (0 : Int32).toNatClampNeg < 2; decide)
  obtain ⟨T4, h4, X4, e4, W4, st4⟩ := stI X3 hx hZ e3 Ar4 (j := (0 : Int32)) hin4 (g := (mkF m 21 #[.val (.ref a0), .val (.int (0 : Int32))] [(.int (-1 : Int32)), (.int (0 : Int32)), (.ref bp)])) rfl rfl (hb hby d5_21)
  have K4 : Keep h0 h4 [bp] := Keep.of_wr W4
  have V4 : Ary Z h4 bp .int [(.int (-1 : Int32)), (.int (-2 : Int32))] := Ary.set Ap W4 rfl
  have N4 := Fr.snoc X4 N0 gp
  have E4_a0 := Exa.keep E K4
  have F4_a0_heap := Fld.keep Fh K4 (ninS n0p nin0)
  have F4_a0_priorities := Fld.keep Fd K4 (ninS n0p nin0)
  have F4_a0_places := Fld.keep Fp K4 (ninS n0p nin0)
  have F4_a0_size := Fld.keep Fs K4 (ninS n0p nin0)
  have F4_a0_taken := Fld.keep Ft K4 (ninS n0p nin0)
  have A4_bh := Ary.keep Ah K4 (ninS nhp nin0)
  have A4_bd := Ary.keep Ad K4 (ninS ndp nin0)
  have Z4 : n0 ≤ h4.size := Nat.le_trans Z0 K4.1
  have KK4 : Keep h0 h4 [a0, bh, bd, bp] := (Keep.refl _ _).trans K4 (allS (Or.inl (List.mem_of_getElem? (i := 3) rfl)) all0)
  refine go st4 ?_
  show Run _ _ _ _ _ _ _ T4 (mkF m 22 #[.val (.ref a0), .val (.int (0 : Int32))] [])
  refine go (T' := T4) (f' := (mkF m 25 #[.val (.ref a0), .val (.int (1 : Int32))] [])) (by intro t k; exact XS.iinc X4.here hx rfl (hb hby d5_22) rfl (l' := #[.val (.ref a0), .val (.int (1 : Int32))]) rfl k) ?_
  refine go (T' := T4) (f' := (mkF m 2 #[.val (.ref a0), .val (.int (1 : Int32))] [])) (by intro t k; exact XS.goto X4.here hx rfl (pc0 := 25) (pc' := 2) rfl (hb hby d5_25) (by decide) (by decide) k) ?_
  refine go (T' := T4) (f' := (mkF m 3 #[.val (.ref a0), .val (.int (1 : Int32))] [(.int (1 : Int32))])) (by intro t k; exact XS.iloadN X4.here hx rfl (hb hby d5_2) rfl k) ?_
  refine go (T' := T4) (f' := (mkF m 4 #[.val (.ref a0), .val (.int (1 : Int32))] [(.ref a0), (.int (1 : Int32))])) (by intro t k; exact XS.aloadN X4.here hx rfl (hb hby d5_3) rfl rfl k) ?_
  obtain ⟨T5, X5, e5, st5⟩ := getF X4 hx hZ hown (host := "") (Or.inl (tw hw 30 rfl)) Via.refl e4 F4_a0_size (g := (mkF m 4 #[.val (.ref a0), .val (.int (1 : Int32))] [(.ref a0), (.int (1 : Int32))])) rfl rfl (hb hby d5_4)
  refine go st5 ?_
  show Run _ _ _ _ _ _ _ T5 (mkF m 7 #[.val (.ref a0), .val (.int (1 : Int32))] [(.int (1 : Int32)), (.int (1 : Int32))])
  refine go (T' := T5) (f' := (mkF m 28 #[.val (.ref a0), .val (.int (1 : Int32))] [])) (by intro t k; exact XS.icmpYes X5.here hx rfl (pc0 := 7) (pc' := 28) rfl (hb hby d5_7) rfl (flt (by decide : ¬ ((1 : Int32) < (1 : Int32)))).2.1 (by decide) (by decide) k) ?_
  refine go (T' := T5) (f' := (mkF m 29 #[.val (.ref a0), .val (.int (1 : Int32))] [(.ref a0)])) (by intro t k; exact XS.aloadN X5.here hx rfl (hb hby d5_28) rfl rfl k) ?_
  obtain ⟨T6, X6, e6, st6⟩ := getF X5 hx hZ hown (host := "") (Or.inl (tw hw 10 rfl)) Via.refl e5 F4_a0_heap (g := (mkF m 29 #[.val (.ref a0), .val (.int (1 : Int32))] [(.ref a0)])) rfl rfl (hb hby d5_29)
  refine go st6 ?_
  show Run _ _ _ _ _ _ _ T6 (mkF m 32 #[.val (.ref a0), .val (.int (1 : Int32))] [(.ref bh)])
  refine go (T' := T6) (f' := (mkF m 33 #[.val (.ref a0), .val (.int (1 : Int32))] [(.int (2 : Int32))])) (by intro t k; exact alen X6 hx hZ e6 A4_bh (z := (2 : Int32)) rfl (g := (mkF m 32 #[.val (.ref a0), .val (.int (1 : Int32))] [(.ref bh)])) rfl rfl (hb hby d5_32) _ k) ?_
  refine go (T' := T6) (f' := (mkF m 34 #[.val (.ref a0), .val (.int (1 : Int32))] [(.ref a0), (.int (2 : Int32))])) (by intro t k; exact XS.aloadN X6.here hx rfl (hb hby d5_33) rfl rfl k) ?_
  obtain ⟨T7, X7, e7, st7⟩ := getF X6 hx hZ hown (host := "") (Or.inl (tw hw 32 rfl)) Via.refl e6 F4_a0_taken (g := (mkF m 34 #[.val (.ref a0), .val (.int (1 : Int32))] [(.ref a0), (.int (2 : Int32))])) rfl rfl (hb hby d5_34)
  refine go st7 ?_
  show Run _ _ _ _ _ _ _ T7 (mkF m 37 #[.val (.ref a0), .val (.int (1 : Int32))] [(.int (1 : Int32)), (.int (2 : Int32))])
  refine go (T' := T7) (f' := (mkF m 38 #[.val (.ref a0), .val (.int (1 : Int32))] [(.int (1 : Int32))])) (by intro t k; exact XS.isub X7.here hx rfl (hb hby d5_37) rfl k) ?_
  refine go (T' := T7) (f' := (mkF m 39 #[.val (.ref a0), .val (.int (1 : Int32))] [])) (by intro t k; exact XS.istoreN X7.here hx rfl (hb hby d5_38) rfl (l' := #[.val (.ref a0), .val (.int (1 : Int32))]) rfl k) ?_
  refine go (T' := T7) (f' := (mkF m 40 #[.val (.ref a0), .val (.int (1 : Int32))] [(.int (1 : Int32))])) (by intro t k; exact XS.iloadN X7.here hx rfl (hb hby d5_39) rfl k) ?_
  refine go (T' := T7) (f' := (mkF m 41 #[.val (.ref a0), .val (.int (1 : Int32))] [(.ref a0), (.int (1 : Int32))])) (by intro t k; exact XS.aloadN X7.here hx rfl (hb hby d5_40) rfl rfl k) ?_
  obtain ⟨T8, X8, e8, st8⟩ := getF X7 hx hZ hown (host := "") (Or.inl (tw hw 10 rfl)) Via.refl e7 F4_a0_heap (g := (mkF m 41 #[.val (.ref a0), .val (.int (1 : Int32))] [(.ref a0), (.int (1 : Int32))])) rfl rfl (hb hby d5_41)
  refine go st8 ?_
  show Run _ _ _ _ _ _ _ T8 (mkF m 44 #[.val (.ref a0), .val (.int (1 : Int32))] [(.ref bh), (.int (1 : Int32))])
  refine go (T' := T8) (f' := (mkF m 45 #[.val (.ref a0), .val (.int (1 : Int32))] [(.int (2 : Int32)), (.int (1 : Int32))])) (by intro t k; exact alen X8 hx hZ e8 A4_bh (z := (2 : Int32)) rfl (g := (mkF m 44 #[.val (.ref a0), .val (.int (1 : Int32))] [(.ref bh), (.int (1 : Int32))])) rfl rfl (hb hby d5_44) _ k) ?_
  refine go (T' := T8) (f' := (mkF m 48 #[.val (.ref a0), .val (.int (1 : Int32))] [])) (by intro t k; exact XS.icmpNo X8.here hx rfl (hb hby d5_45) rfl (tlt (by decide : (1 : Int32) < (2 : Int32))).2.1 k) ?_
  refine go (T' := T8) (f' := (mkF m 49 #[.val (.ref a0), .val (.int (1 : Int32))] [(.ref a0)])) (by intro t k; exact XS.aloadN X8.here hx rfl (hb hby d5_48) rfl rfl k) ?_
  obtain ⟨T9, X9, e9, st9⟩ := getF X8 hx hZ hown (host := "") (Or.inl (tw hw 15 rfl)) Via.refl e8 F4_a0_places (g := (mkF m 49 #[.val (.ref a0), .val (.int (1 : Int32))] [(.ref a0)])) rfl rfl (hb hby d5_49)
  refine go st9 ?_
  show Run _ _ _ _ _ _ _ T9 (mkF m 52 #[.val (.ref a0), .val (.int (1 : Int32))] [(.ref bp)])
  refine go (T' := T9) (f' := (mkF m 53 #[.val (.ref a0), .val (.int (1 : Int32))] [(.ref a0), (.ref bp)])) (by intro t k; exact XS.aloadN X9.here hx rfl (hb hby d5_52) rfl rfl k) ?_
  obtain ⟨T10, X10, e10, st10⟩ := getF X9 hx hZ hown (host := "") (Or.inl (tw hw 10 rfl)) Via.refl e9 F4_a0_heap (g := (mkF m 53 #[.val (.ref a0), .val (.int (1 : Int32))] [(.ref a0), (.ref bp)])) rfl rfl (hb hby d5_53)
  refine go st10 ?_
  show Run _ _ _ _ _ _ _ T10 (mkF m 56 #[.val (.ref a0), .val (.int (1 : Int32))] [(.ref bh), (.ref bp)])
  refine go (T' := T10) (f' := (mkF m 57 #[.val (.ref a0), .val (.int (1 : Int32))] [(.int (1 : Int32)), (.ref bh), (.ref bp)])) (by intro t k; exact XS.iloadN X10.here hx rfl (hb hby d5_56) rfl k) ?_
  refine go (T' := T10) (f' := (mkF m 58 #[.val (.ref a0), .val (.int (1 : Int32))] [(.int (1 : Int32)), (.ref bp)])) (by intro t k; exact ldI X10 hx hZ e10 A4_bh (j := (1 : Int32)) (v := (.int (1 : Int32))) (by decide) rfl (g := (mkF m 57 #[.val (.ref a0), .val (.int (1 : Int32))] [(.int (1 : Int32)), (.ref bh), (.ref bp)])) rfl rfl (hb hby d5_57) _ k) ?_
  refine go (T' := T10) (f' := (mkF m 59 #[.val (.ref a0), .val (.int (1 : Int32))] [(.int (-1 : Int32)), (.int (1 : Int32)), (.ref bp)])) (by intro t k; exact XS.iconst X10.here hx rfl (hb hby d5_58) k) ?_
  obtain ⟨cl11, Ar11, hin11⟩ := Ary.st (j := (1 : Int32)) V4 (by decide) (by show (1 : Int32).toNatClampNeg < 2; decide)
  obtain ⟨T11, h11, X11, e11, W11, st11⟩ := stI X10 hx hZ e10 Ar11 (j := (1 : Int32)) hin11 (g := (mkF m 59 #[.val (.ref a0), .val (.int (1 : Int32))] [(.int (-1 : Int32)), (.int (1 : Int32)), (.ref bp)])) rfl rfl (hb hby d5_59)
  have K11 : Keep h4 h11 [bp] := Keep.of_wr W11
  have V11 : Ary Z h11 bp .int [(.int (-1 : Int32)), (.int (-1 : Int32))] := Ary.set V4 W11 rfl
  have N11 := Fr.snoc X11 N4 gp
  have E11_a0 := Exa.keep E4_a0 K11
  have F11_a0_heap := Fld.keep F4_a0_heap K11 (ninS n0p nin0)
  have F11_a0_priorities := Fld.keep F4_a0_priorities K11 (ninS n0p nin0)
  have F11_a0_places := Fld.keep F4_a0_places K11 (ninS n0p nin0)
  have F11_a0_size := Fld.keep F4_a0_size K11 (ninS n0p nin0)
  have F11_a0_taken := Fld.keep F4_a0_taken K11 (ninS n0p nin0)
  have A11_bh := Ary.keep A4_bh K11 (ninS nhp nin0)
  have A11_bd := Ary.keep A4_bd K11 (ninS ndp nin0)
  have Z11 : n0 ≤ h11.size := Nat.le_trans Z4 K11.1
  have KK11 : Keep h0 h11 [a0, bh, bd, bp] := KK4.trans K11 (allS (Or.inl (List.mem_of_getElem? (i := 3) rfl)) all0)
  refine go st11 ?_
  show Run _ _ _ _ _ _ _ T11 (mkF m 60 #[.val (.ref a0), .val (.int (1 : Int32))] [])
  refine go (T' := T11) (f' := (mkF m 63 #[.val (.ref a0), .val (.int (2 : Int32))] [])) (by intro t k; exact XS.iinc X11.here hx rfl (hb hby d5_60) rfl (l' := #[.val (.ref a0), .val (.int (2 : Int32))]) rfl k) ?_
  refine go (T' := T11) (f' := (mkF m 39 #[.val (.ref a0), .val (.int (2 : Int32))] [])) (by intro t k; exact XS.goto X11.here hx rfl (pc0 := 63) (pc' := 39) rfl (hb hby d5_63) (by decide) (by decide) k) ?_
  refine go (T' := T11) (f' := (mkF m 40 #[.val (.ref a0), .val (.int (2 : Int32))] [(.int (2 : Int32))])) (by intro t k; exact XS.iloadN X11.here hx rfl (hb hby d5_39) rfl k) ?_
  refine go (T' := T11) (f' := (mkF m 41 #[.val (.ref a0), .val (.int (2 : Int32))] [(.ref a0), (.int (2 : Int32))])) (by intro t k; exact XS.aloadN X11.here hx rfl (hb hby d5_40) rfl rfl k) ?_
  obtain ⟨T12, X12, e12, st12⟩ := getF X11 hx hZ hown (host := "") (Or.inl (tw hw 10 rfl)) Via.refl e11 F11_a0_heap (g := (mkF m 41 #[.val (.ref a0), .val (.int (2 : Int32))] [(.ref a0), (.int (2 : Int32))])) rfl rfl (hb hby d5_41)
  refine go st12 ?_
  show Run _ _ _ _ _ _ _ T12 (mkF m 44 #[.val (.ref a0), .val (.int (2 : Int32))] [(.ref bh), (.int (2 : Int32))])
  refine go (T' := T12) (f' := (mkF m 45 #[.val (.ref a0), .val (.int (2 : Int32))] [(.int (2 : Int32)), (.int (2 : Int32))])) (by intro t k; exact alen X12 hx hZ e12 A11_bh (z := (2 : Int32)) rfl (g := (mkF m 44 #[.val (.ref a0), .val (.int (2 : Int32))] [(.ref bh), (.int (2 : Int32))])) rfl rfl (hb hby d5_44) _ k) ?_
  refine go (T' := T12) (f' := (mkF m 66 #[.val (.ref a0), .val (.int (2 : Int32))] [])) (by intro t k; exact XS.icmpYes X12.here hx rfl (pc0 := 45) (pc' := 66) rfl (hb hby d5_45) rfl (flt (by decide : ¬ ((2 : Int32) < (2 : Int32)))).2.1 (by decide) (by decide) k) ?_
  refine go (T' := T12) (f' := (mkF m 67 #[.val (.ref a0), .val (.int (2 : Int32))] [(.ref a0)])) (by intro t k; exact XS.aloadN X12.here hx rfl (hb hby d5_66) rfl rfl k) ?_
  refine go (T' := T12) (f' := (mkF m 68 #[.val (.ref a0), .val (.int (2 : Int32))] [(.int (0 : Int32)), (.ref a0)])) (by intro t k; exact XS.iconst X12.here hx rfl (hb hby d5_67) k) ?_
  obtain ⟨T13, h13, X13, e13, W13, st13⟩ := putF X12 hx hZ hown (host := "") (Or.inl (tw hw 30 rfl)) Via.refl e12 F11_a0_size E11_a0 (Or.inl (tw hw 31 rfl)) (tw hw 1 rfl) (ty := .int) (by decide) rfl rfl (g := (mkF m 68 #[.val (.ref a0), .val (.int (2 : Int32))] [(.int (0 : Int32)), (.ref a0)])) rfl rfl (hb hby d5_68)
  have K13 : Keep h11 h13 [a0] := Keep.of_wr W13
  have F13_a0_heap := Fld.other W13 F11_a0_heap (Or.inr (slot_ne (Or.inr (tw hw 11 rfl)) (Or.inl (tw hw 31 rfl)) (by decide) (t := (.array .int)) (t' := .int) (by decide) (by decide)))
  have F13_a0_priorities := Fld.other W13 F11_a0_priorities (Or.inr (slot_ne (Or.inr (tw hw 14 rfl)) (Or.inl (tw hw 31 rfl)) (by decide) (t := (.array .double)) (t' := .int) (by decide) (by decide)))
  have F13_a0_places := Fld.other W13 F11_a0_places (Or.inr (slot_ne (Or.inr (tw hw 16 rfl)) (Or.inl (tw hw 31 rfl)) (by decide) (t := (.array .int)) (t' := .int) (by decide) (by decide)))
  have F13_a0_size : Fld Z h13 a0 "com/example/wayshard/wayshard/service/VertexQueue" "size" "I" (.int (0 : Int32)) := F11_a0_size.same W13
  have F13_a0_taken := Fld.other W13 F11_a0_taken (Or.inr (slot_ne (Or.inl (tw hw 33 rfl)) (Or.inl (tw hw 31 rfl)) (by decide) (t := .int) (t' := .int) (by decide) (by decide)))
  have N13 := Fr.snoc X13 N11 g0
  have E13_a0 := Exa.keep E11_a0 K13
  have A13_bh := Ary.keep A11_bh K13 (ninS (Ne.symm n0h) nin0)
  have A13_bd := Ary.keep A11_bd K13 (ninS (Ne.symm n0d) nin0)
  have A13_bp := Ary.keep V11 K13 (ninS (Ne.symm n0p) nin0)
  have Z13 : n0 ≤ h13.size := Nat.le_trans Z11 K13.1
  have KK13 : Keep h0 h13 [a0, bh, bd, bp] := KK11.trans K13 (allS (Or.inl (List.mem_of_getElem? (i := 0) rfl)) all0)
  refine go st13 ?_
  show Run _ _ _ _ _ _ _ T13 (mkF m 71 #[.val (.ref a0), .val (.int (2 : Int32))] [])
  refine go (T' := T13) (f' := (mkF m 72 #[.val (.ref a0), .val (.int (2 : Int32))] [(.ref a0)])) (by intro t k; exact XS.aloadN X13.here hx rfl (hb hby d5_71) rfl rfl k) ?_
  refine go (T' := T13) (f' := (mkF m 73 #[.val (.ref a0), .val (.int (2 : Int32))] [(.int (0 : Int32)), (.ref a0)])) (by intro t k; exact XS.iconst X13.here hx rfl (hb hby d5_72) k) ?_
  obtain ⟨T14, h14, X14, e14, W14, st14⟩ := putF X13 hx hZ hown (host := "") (Or.inl (tw hw 32 rfl)) Via.refl e13 F13_a0_taken E13_a0 (Or.inl (tw hw 33 rfl)) (tw hw 1 rfl) (ty := .int) (by decide) rfl rfl (g := (mkF m 73 #[.val (.ref a0), .val (.int (2 : Int32))] [(.int (0 : Int32)), (.ref a0)])) rfl rfl (hb hby d5_73)
  have K14 : Keep h13 h14 [a0] := Keep.of_wr W14
  have F14_a0_heap := Fld.other W14 F13_a0_heap (Or.inr (slot_ne (Or.inr (tw hw 11 rfl)) (Or.inl (tw hw 33 rfl)) (by decide) (t := (.array .int)) (t' := .int) (by decide) (by decide)))
  have F14_a0_priorities := Fld.other W14 F13_a0_priorities (Or.inr (slot_ne (Or.inr (tw hw 14 rfl)) (Or.inl (tw hw 33 rfl)) (by decide) (t := (.array .double)) (t' := .int) (by decide) (by decide)))
  have F14_a0_places := Fld.other W14 F13_a0_places (Or.inr (slot_ne (Or.inr (tw hw 16 rfl)) (Or.inl (tw hw 33 rfl)) (by decide) (t := (.array .int)) (t' := .int) (by decide) (by decide)))
  have F14_a0_size := Fld.other W14 F13_a0_size (Or.inr (slot_ne (Or.inl (tw hw 31 rfl)) (Or.inl (tw hw 33 rfl)) (by decide) (t := .int) (t' := .int) (by decide) (by decide)))
  have F14_a0_taken : Fld Z h14 a0 "com/example/wayshard/wayshard/service/VertexQueue" "taken" "I" (.int (0 : Int32)) := F13_a0_taken.same W14
  have N14 := Fr.snoc X14 N13 g0
  have E14_a0 := Exa.keep E13_a0 K14
  have A14_bh := Ary.keep A13_bh K14 (ninS (Ne.symm n0h) nin0)
  have A14_bd := Ary.keep A13_bd K14 (ninS (Ne.symm n0d) nin0)
  have A14_bp := Ary.keep A13_bp K14 (ninS (Ne.symm n0p) nin0)
  have Z14 : n0 ≤ h14.size := Nat.le_trans Z13 K14.1
  have KK14 : Keep h0 h14 [a0, bh, bd, bp] := KK13.trans K14 (allS (Or.inl (List.mem_of_getElem? (i := 0) rfl)) all0)
  refine go st14 ?_
  show Run _ _ _ _ _ _ _ T14 (mkF m 76 #[.val (.ref a0), .val (.int (2 : Int32))] [])
  refine retV X14 hx Bd.returns (hb hby d5_76) hlk (by decide) (by decide) ?_
  show Q5t37 Z a0 bh bd bp x0 x1 h0 n0 _ T14.heap _
  rw [e14]
  exact ⟨rfl, N14, KK14, ⟨E14_a0, F14_a0_heap, F14_a0_priorities, F14_a0_places, F14_a0_size, F14_a0_taken, A14_bh, A14_bd, A14_bp, g0, gh, gd, gp, n0h, n0d, n0p, nhd, nhp, ndp⟩⟩
theorem ef_11t38 (m : MethodId) (x0 : Addr) : entryFrame m #[(.ref x0)] 2 = mkF m 0 #[.val (.ref x0), .unset] [] := by first | (simp [entryFrame, mkF, argsToLocals, Value.category]; done) | rfl
def Q11t38 (Z : State) (a0 : Addr) (bh bd bp : Addr) (x0 x1 : UInt64) (h0 : Heap) (n0 : Nat) (v : Option Value) (h : Heap) (L : List Loc) : Prop := v = some (.int (0 : Int32)) ∧ Fr n0 L ∧ Keep h0 h [a0, bh, bd, bp] ∧ own_st Z n0 h a0 bh bd bp (0 : Int32) (1 : Int32) (-2 : Int32) (-2 : Int32) (0 : Int32) (2 : Int32) x0 x1
set_option maxRecDepth 65536 in
set_option maxHeartbeats 40000000 in
theorem rm11t38 (l : Launch) (Z : State) (aw : Array Value) (hw : ∀ d ∈ tables_1, d.before aw Z = true) (ws : List Jvm.Cond) (a0 : Addr) (bh bd bp : Addr) (x0 x1 : UInt64) (h0 : Heap) (n0 : Nat) (Z0 : n0 ≤ h0.size) (St : own_st Z n0 h0 a0 bh bd bp (0 : Int32) (1 : Int32) (0 : Int32) (-2 : Int32) (1 : Int32) (1 : Int32) x0 x1) :
    MetFree l mpoll (head1 (Jvm.Cond.code mpoll prog_64_method_6_code 2 (some .int) :: ws) rO0) (fun a U => a = #[(.ref a0)] ∧ Z.Warmed39 U.vm ∧ U.heap = h0) (fun _ _ _ _ _ => True) (fun _ U o U' => ∃ v L, o = .returned v ∧ Q11t38 Z a0 bh bd bp x0 x1 h0 n0 v U'.heap L ∧ FrameEnd U o U' L rO0.cells rO0.slots) := by
  refine MetFree.of_bodySF (plainFor_of_name pn_1) hisR ?_
  intro p e s m args below meth c s₁ Bd hml0 hP hK
  obtain ⟨rfl, hZ, hh⟩ := hP
  have hx := Bd.exec
  have hby := Bd.bytes
  have hml : c.maxLocals = 2 := hml0
  have hown : s.vm.findClass "com/example/wayshard/wayshard/service/VertexQueue" = some m.cls := findClass_of_methodNamed Bd.named
  have hnm := (name_of_methodNamed Bd.named Bd.method).1
  have hlk : meth.locks = false := BodyLoose.notSynchronized Bd
  have X0 : Stand p l e rO0 s m #[(.ref a0)] below meth c s₁ [] 0 0 := Stand.of_body Bd
  have e0 : s₁.heap = h0 := by rw [← hh, Bd.state]; rfl
  have N0 := Fr.nil n0
  show Run p e s below (Q11t38 Z a0 bh bd bp x0 x1 h0 n0) rO0.cells rO0.slots s₁ (entryFrame m #[(.ref a0)] 2)
  rw [ef_11t38]
  obtain ⟨E, Fh, Fd, Fp, Fs, Ft, Ah, Ad, Ap, g0, gh, gd, gp, n0h, n0d, n0p, nhd, nhp, ndp⟩ := St
  show Run _ _ _ _ _ _ _ s₁ (mkF m 0 #[.val (.ref a0), .unset] [])
  refine go (T' := s₁) (f' := (mkF m 1 #[.val (.ref a0), .unset] [(.ref a0)])) (by intro t k; exact XS.aloadN X0.here hx rfl (hb hby d11_0) rfl rfl k) ?_
  obtain ⟨T1, X1, e1, st1⟩ := getF X0 hx hZ hown (host := "") (Or.inl (tw hw 30 rfl)) Via.refl e0 Fs (g := (mkF m 1 #[.val (.ref a0), .unset] [(.ref a0)])) rfl rfl (hb hby d11_1)
  refine go st1 ?_
  show Run _ _ _ _ _ _ _ T1 (mkF m 4 #[.val (.ref a0), .unset] [(.int (1 : Int32))])
  refine go (T' := T1) (f' := (mkF m 15 #[.val (.ref a0), .unset] [])) (by intro t k; exact XS.ifYes X1.here hx rfl (pc0 := 4) (pc' := 15) rfl (hb hby d11_4) rfl ((if0 _ _).trans (feq (by decide : ¬ ((1 : Int32) = (0 : Int32)))).2) (by decide) (by decide) k) ?_
  refine go (T' := T1) (f' := (mkF m 16 #[.val (.ref a0), .unset] [(.ref a0)])) (by intro t k; exact XS.aloadN X1.here hx rfl (hb hby d11_15) rfl rfl k) ?_
  obtain ⟨T2, X2, e2, st2⟩ := getF X1 hx hZ hown (host := "") (Or.inl (tw hw 10 rfl)) Via.refl e1 Fh (g := (mkF m 16 #[.val (.ref a0), .unset] [(.ref a0)])) rfl rfl (hb hby d11_16)
  refine go st2 ?_
  show Run _ _ _ _ _ _ _ T2 (mkF m 19 #[.val (.ref a0), .unset] [(.ref bh)])
  refine go (T' := T2) (f' := (mkF m 20 #[.val (.ref a0), .unset] [(.int (0 : Int32)), (.ref bh)])) (by intro t k; exact XS.iconst X2.here hx rfl (hb hby d11_19) k) ?_
  refine go (T' := T2) (f' := (mkF m 21 #[.val (.ref a0), .unset] [(.int (0 : Int32))])) (by intro t k; exact ldI X2 hx hZ e2 Ah (j := (0 : Int32)) (v := (.int (0 : Int32))) (by decide) rfl (g := (mkF m 20 #[.val (.ref a0), .unset] [(.int (0 : Int32)), (.ref bh)])) rfl rfl (hb hby d11_20) _ k) ?_
  refine go (T' := T2) (f' := (mkF m 22 #[.val (.ref a0), .val (.int (0 : Int32))] [])) (by intro t k; exact XS.istoreN X2.here hx rfl (hb hby d11_21) rfl (l' := #[.val (.ref a0), .val (.int (0 : Int32))]) rfl k) ?_
  refine go (T' := T2) (f' := (mkF m 23 #[.val (.ref a0), .val (.int (0 : Int32))] [(.ref a0)])) (by intro t k; exact XS.aloadN X2.here hx rfl (hb hby d11_22) rfl rfl k) ?_
  refine go (T' := T2) (f' := (mkF m 24 #[.val (.ref a0), .val (.int (0 : Int32))] [(.ref a0), (.ref a0)])) (by intro t k; exact XS.dup X2.here hx rfl (hb hby d11_23) rfl rfl k) ?_
  obtain ⟨T3, X3, e3, st3⟩ := getF X2 hx hZ hown (host := "") (Or.inl (tw hw 30 rfl)) Via.refl e2 Fs (g := (mkF m 24 #[.val (.ref a0), .val (.int (0 : Int32))] [(.ref a0), (.ref a0)])) rfl rfl (hb hby d11_24)
  refine go st3 ?_
  show Run _ _ _ _ _ _ _ T3 (mkF m 27 #[.val (.ref a0), .val (.int (0 : Int32))] [(.int (1 : Int32)), (.ref a0)])
  refine go (T' := T3) (f' := (mkF m 28 #[.val (.ref a0), .val (.int (0 : Int32))] [(.int (1 : Int32)), (.int (1 : Int32)), (.ref a0)])) (by intro t k; exact XS.iconst X3.here hx rfl (hb hby d11_27) k) ?_
  refine go (T' := T3) (f' := (mkF m 29 #[.val (.ref a0), .val (.int (0 : Int32))] [(.int (0 : Int32)), (.ref a0)])) (by intro t k; exact XS.isub X3.here hx rfl (hb hby d11_28) rfl k) ?_
  obtain ⟨T4, h4, X4, e4, W4, st4⟩ := putF X3 hx hZ hown (host := "") (Or.inl (tw hw 30 rfl)) Via.refl e3 Fs E (Or.inl (tw hw 31 rfl)) (tw hw 1 rfl) (ty := .int) (by decide) rfl rfl (g := (mkF m 29 #[.val (.ref a0), .val (.int (0 : Int32))] [(.int (0 : Int32)), (.ref a0)])) rfl rfl (hb hby d11_29)
  have K4 : Keep h0 h4 [a0] := Keep.of_wr W4
  have F4_a0_heap := Fld.other W4 Fh (Or.inr (slot_ne (Or.inr (tw hw 11 rfl)) (Or.inl (tw hw 31 rfl)) (by decide) (t := (.array .int)) (t' := .int) (by decide) (by decide)))
  have F4_a0_priorities := Fld.other W4 Fd (Or.inr (slot_ne (Or.inr (tw hw 14 rfl)) (Or.inl (tw hw 31 rfl)) (by decide) (t := (.array .double)) (t' := .int) (by decide) (by decide)))
  have F4_a0_places := Fld.other W4 Fp (Or.inr (slot_ne (Or.inr (tw hw 16 rfl)) (Or.inl (tw hw 31 rfl)) (by decide) (t := (.array .int)) (t' := .int) (by decide) (by decide)))
  have F4_a0_size : Fld Z h4 a0 "com/example/wayshard/wayshard/service/VertexQueue" "size" "I" (.int (0 : Int32)) := Fs.same W4
  have F4_a0_taken := Fld.other W4 Ft (Or.inr (slot_ne (Or.inl (tw hw 33 rfl)) (Or.inl (tw hw 31 rfl)) (by decide) (t := .int) (t' := .int) (by decide) (by decide)))
  have N4 := Fr.snoc X4 N0 g0
  have E4_a0 := Exa.keep E K4
  have A4_bh := Ary.keep Ah K4 (ninS (Ne.symm n0h) nin0)
  have A4_bd := Ary.keep Ad K4 (ninS (Ne.symm n0d) nin0)
  have A4_bp := Ary.keep Ap K4 (ninS (Ne.symm n0p) nin0)
  have Z4 : n0 ≤ h4.size := Nat.le_trans Z0 K4.1
  have KK4 : Keep h0 h4 [a0, bh, bd, bp] := (Keep.refl _ _).trans K4 (allS (Or.inl (List.mem_of_getElem? (i := 0) rfl)) all0)
  refine go st4 ?_
  show Run _ _ _ _ _ _ _ T4 (mkF m 32 #[.val (.ref a0), .val (.int (0 : Int32))] [])
  refine go (T' := T4) (f' := (mkF m 33 #[.val (.ref a0), .val (.int (0 : Int32))] [(.ref a0)])) (by intro t k; exact XS.aloadN X4.here hx rfl (hb hby d11_32) rfl rfl k) ?_
  obtain ⟨T5, X5, e5, st5⟩ := getF X4 hx hZ hown (host := "") (Or.inl (tw hw 30 rfl)) Via.refl e4 F4_a0_size (g := (mkF m 33 #[.val (.ref a0), .val (.int (0 : Int32))] [(.ref a0)])) rfl rfl (hb hby d11_33)
  refine go st5 ?_
  show Run _ _ _ _ _ _ _ T5 (mkF m 36 #[.val (.ref a0), .val (.int (0 : Int32))] [(.int (0 : Int32))])
  refine go (T' := T5) (f' := (mkF m 71 #[.val (.ref a0), .val (.int (0 : Int32))] [])) (by intro t k; exact XS.ifYes X5.here hx rfl (pc0 := 36) (pc' := 71) rfl (hb hby d11_36) rfl ((if0 _ _).trans (flt (by decide : ¬ ((0 : Int32) < (0 : Int32)))).2.2.2) (by decide) (by decide) k) ?_
  refine go (T' := T5) (f' := (mkF m 72 #[.val (.ref a0), .val (.int (0 : Int32))] [(.ref a0)])) (by intro t k; exact XS.aloadN X5.here hx rfl (hb hby d11_71) rfl rfl k) ?_
  refine go (T' := T5) (f' := (mkF m 73 #[.val (.ref a0), .val (.int (0 : Int32))] [(.ref a0), (.ref a0)])) (by intro t k; exact XS.dup X5.here hx rfl (hb hby d11_72) rfl rfl k) ?_
  obtain ⟨T6, X6, e6, st6⟩ := getF X5 hx hZ hown (host := "") (Or.inl (tw hw 32 rfl)) Via.refl e5 F4_a0_taken (g := (mkF m 73 #[.val (.ref a0), .val (.int (0 : Int32))] [(.ref a0), (.ref a0)])) rfl rfl (hb hby d11_73)
  refine go st6 ?_
  show Run _ _ _ _ _ _ _ T6 (mkF m 76 #[.val (.ref a0), .val (.int (0 : Int32))] [(.int (1 : Int32)), (.ref a0)])
  refine go (T' := T6) (f' := (mkF m 77 #[.val (.ref a0), .val (.int (0 : Int32))] [(.int (1 : Int32)), (.int (1 : Int32)), (.ref a0)])) (by intro t k; exact XS.iconst X6.here hx rfl (hb hby d11_76) k) ?_
  refine go (T' := T6) (f' := (mkF m 78 #[.val (.ref a0), .val (.int (0 : Int32))] [(.int (2 : Int32)), (.ref a0)])) (by intro t k; exact XS.iadd X6.here hx rfl (hb hby d11_77) rfl k) ?_
  obtain ⟨T7, h7, X7, e7, W7, st7⟩ := putF X6 hx hZ hown (host := "") (Or.inl (tw hw 32 rfl)) Via.refl e6 F4_a0_taken E4_a0 (Or.inl (tw hw 33 rfl)) (tw hw 1 rfl) (ty := .int) (by decide) rfl rfl (g := (mkF m 78 #[.val (.ref a0), .val (.int (0 : Int32))] [(.int (2 : Int32)), (.ref a0)])) rfl rfl (hb hby d11_78)
  have K7 : Keep h4 h7 [a0] := Keep.of_wr W7
  have F7_a0_heap := Fld.other W7 F4_a0_heap (Or.inr (slot_ne (Or.inr (tw hw 11 rfl)) (Or.inl (tw hw 33 rfl)) (by decide) (t := (.array .int)) (t' := .int) (by decide) (by decide)))
  have F7_a0_priorities := Fld.other W7 F4_a0_priorities (Or.inr (slot_ne (Or.inr (tw hw 14 rfl)) (Or.inl (tw hw 33 rfl)) (by decide) (t := (.array .double)) (t' := .int) (by decide) (by decide)))
  have F7_a0_places := Fld.other W7 F4_a0_places (Or.inr (slot_ne (Or.inr (tw hw 16 rfl)) (Or.inl (tw hw 33 rfl)) (by decide) (t := (.array .int)) (t' := .int) (by decide) (by decide)))
  have F7_a0_size := Fld.other W7 F4_a0_size (Or.inr (slot_ne (Or.inl (tw hw 31 rfl)) (Or.inl (tw hw 33 rfl)) (by decide) (t := .int) (t' := .int) (by decide) (by decide)))
  have F7_a0_taken : Fld Z h7 a0 "com/example/wayshard/wayshard/service/VertexQueue" "taken" "I" (.int (2 : Int32)) := F4_a0_taken.same W7
  have N7 := Fr.snoc X7 N4 g0
  have E7_a0 := Exa.keep E4_a0 K7
  have A7_bh := Ary.keep A4_bh K7 (ninS (Ne.symm n0h) nin0)
  have A7_bd := Ary.keep A4_bd K7 (ninS (Ne.symm n0d) nin0)
  have A7_bp := Ary.keep A4_bp K7 (ninS (Ne.symm n0p) nin0)
  have Z7 : n0 ≤ h7.size := Nat.le_trans Z4 K7.1
  have KK7 : Keep h0 h7 [a0, bh, bd, bp] := KK4.trans K7 (allS (Or.inl (List.mem_of_getElem? (i := 0) rfl)) all0)
  refine go st7 ?_
  show Run _ _ _ _ _ _ _ T7 (mkF m 81 #[.val (.ref a0), .val (.int (0 : Int32))] [])
  refine go (T' := T7) (f' := (mkF m 82 #[.val (.ref a0), .val (.int (0 : Int32))] [(.ref a0)])) (by intro t k; exact XS.aloadN X7.here hx rfl (hb hby d11_81) rfl rfl k) ?_
  obtain ⟨T8, X8, e8, st8⟩ := getF X7 hx hZ hown (host := "") (Or.inl (tw hw 10 rfl)) Via.refl e7 F7_a0_heap (g := (mkF m 82 #[.val (.ref a0), .val (.int (0 : Int32))] [(.ref a0)])) rfl rfl (hb hby d11_82)
  refine go st8 ?_
  show Run _ _ _ _ _ _ _ T8 (mkF m 85 #[.val (.ref a0), .val (.int (0 : Int32))] [(.ref bh)])
  refine go (T' := T8) (f' := (mkF m 86 #[.val (.ref a0), .val (.int (0 : Int32))] [(.ref a0), (.ref bh)])) (by intro t k; exact XS.aloadN X8.here hx rfl (hb hby d11_85) rfl rfl k) ?_
  obtain ⟨T9, X9, e9, st9⟩ := getF X8 hx hZ hown (host := "") (Or.inl (tw hw 10 rfl)) Via.refl e8 F7_a0_heap (g := (mkF m 86 #[.val (.ref a0), .val (.int (0 : Int32))] [(.ref a0), (.ref bh)])) rfl rfl (hb hby d11_86)
  refine go st9 ?_
  show Run _ _ _ _ _ _ _ T9 (mkF m 89 #[.val (.ref a0), .val (.int (0 : Int32))] [(.ref bh), (.ref bh)])
  refine go (T' := T9) (f' := (mkF m 90 #[.val (.ref a0), .val (.int (0 : Int32))] [(.int (2 : Int32)), (.ref bh)])) (by intro t k; exact alen X9 hx hZ e9 A7_bh (z := (2 : Int32)) rfl (g := (mkF m 89 #[.val (.ref a0), .val (.int (0 : Int32))] [(.ref bh), (.ref bh)])) rfl rfl (hb hby d11_89) _ k) ?_
  refine go (T' := T9) (f' := (mkF m 91 #[.val (.ref a0), .val (.int (0 : Int32))] [(.ref a0), (.int (2 : Int32)), (.ref bh)])) (by intro t k; exact XS.aloadN X9.here hx rfl (hb hby d11_90) rfl rfl k) ?_
  obtain ⟨T10, X10, e10, st10⟩ := getF X9 hx hZ hown (host := "") (Or.inl (tw hw 32 rfl)) Via.refl e9 F7_a0_taken (g := (mkF m 91 #[.val (.ref a0), .val (.int (0 : Int32))] [(.ref a0), (.int (2 : Int32)), (.ref bh)])) rfl rfl (hb hby d11_91)
  refine go st10 ?_
  show Run _ _ _ _ _ _ _ T10 (mkF m 94 #[.val (.ref a0), .val (.int (0 : Int32))] [(.int (2 : Int32)), (.int (2 : Int32)), (.ref bh)])
  refine go (T' := T10) (f' := (mkF m 95 #[.val (.ref a0), .val (.int (0 : Int32))] [(.int (0 : Int32)), (.ref bh)])) (by intro t k; exact XS.isub X10.here hx rfl (hb hby d11_94) rfl k) ?_
  refine go (T' := T10) (f' := (mkF m 96 #[.val (.ref a0), .val (.int (0 : Int32))] [(.int (0 : Int32)), (.int (0 : Int32)), (.ref bh)])) (by intro t k; exact XS.iloadN X10.here hx rfl (hb hby d11_95) rfl k) ?_
  obtain ⟨cl11, Ar11, hin11⟩ := Ary.st (j := (0 : Int32)) A7_bh (by decide) (by show (0 : Int32).toNatClampNeg < 2; decide)
  obtain ⟨T11, h11, X11, e11, W11, st11⟩ := stI X10 hx hZ e10 Ar11 (j := (0 : Int32)) hin11 (g := (mkF m 96 #[.val (.ref a0), .val (.int (0 : Int32))] [(.int (0 : Int32)), (.int (0 : Int32)), (.ref bh)])) rfl rfl (hb hby d11_96)
  have K11 : Keep h7 h11 [bh] := Keep.of_wr W11
  have V11 : Ary Z h11 bh .int [(.int (0 : Int32)), (.int (1 : Int32))] := Ary.set A7_bh W11 rfl
  have N11 := Fr.snoc X11 N7 gh
  have E11_a0 := Exa.keep E7_a0 K11
  have F11_a0_heap := Fld.keep F7_a0_heap K11 (ninS n0h nin0)
  have F11_a0_priorities := Fld.keep F7_a0_priorities K11 (ninS n0h nin0)
  have F11_a0_places := Fld.keep F7_a0_places K11 (ninS n0h nin0)
  have F11_a0_size := Fld.keep F7_a0_size K11 (ninS n0h nin0)
  have F11_a0_taken := Fld.keep F7_a0_taken K11 (ninS n0h nin0)
  have A11_bd := Ary.keep A7_bd K11 (ninS (Ne.symm nhd) nin0)
  have A11_bp := Ary.keep A7_bp K11 (ninS (Ne.symm nhp) nin0)
  have Z11 : n0 ≤ h11.size := Nat.le_trans Z7 K11.1
  have KK11 : Keep h0 h11 [a0, bh, bd, bp] := KK7.trans K11 (allS (Or.inl (List.mem_of_getElem? (i := 1) rfl)) all0)
  refine go st11 ?_
  show Run _ _ _ _ _ _ _ T11 (mkF m 97 #[.val (.ref a0), .val (.int (0 : Int32))] [])
  refine go (T' := T11) (f' := (mkF m 98 #[.val (.ref a0), .val (.int (0 : Int32))] [(.ref a0)])) (by intro t k; exact XS.aloadN X11.here hx rfl (hb hby d11_97) rfl rfl k) ?_
  obtain ⟨T12, X12, e12, st12⟩ := getF X11 hx hZ hown (host := "") (Or.inl (tw hw 15 rfl)) Via.refl e11 F11_a0_places (g := (mkF m 98 #[.val (.ref a0), .val (.int (0 : Int32))] [(.ref a0)])) rfl rfl (hb hby d11_98)
  refine go st12 ?_
  show Run _ _ _ _ _ _ _ T12 (mkF m 101 #[.val (.ref a0), .val (.int (0 : Int32))] [(.ref bp)])
  refine go (T' := T12) (f' := (mkF m 102 #[.val (.ref a0), .val (.int (0 : Int32))] [(.int (0 : Int32)), (.ref bp)])) (by intro t k; exact XS.iloadN X12.here hx rfl (hb hby d11_101) rfl k) ?_
  refine go (T' := T12) (f' := (mkF m 104 #[.val (.ref a0), .val (.int (0 : Int32))] [(.int (-2 : Int32)), (.int (0 : Int32)), (.ref bp)])) (by intro t k; exact XS.bipush X12.here hx rfl (hb hby d11_102) k) ?_
  obtain ⟨cl13, Ar13, hin13⟩ := Ary.st (j := (0 : Int32)) A11_bp (by decide) (by show (0 : Int32).toNatClampNeg < 2; decide)
  obtain ⟨T13, h13, X13, e13, W13, st13⟩ := stI X12 hx hZ e12 Ar13 (j := (0 : Int32)) hin13 (g := (mkF m 104 #[.val (.ref a0), .val (.int (0 : Int32))] [(.int (-2 : Int32)), (.int (0 : Int32)), (.ref bp)])) rfl rfl (hb hby d11_104)
  have K13 : Keep h11 h13 [bp] := Keep.of_wr W13
  have V13 : Ary Z h13 bp .int [(.int (-2 : Int32)), (.int (-2 : Int32))] := Ary.set A11_bp W13 rfl
  have N13 := Fr.snoc X13 N11 gp
  have E13_a0 := Exa.keep E11_a0 K13
  have F13_a0_heap := Fld.keep F11_a0_heap K13 (ninS n0p nin0)
  have F13_a0_priorities := Fld.keep F11_a0_priorities K13 (ninS n0p nin0)
  have F13_a0_places := Fld.keep F11_a0_places K13 (ninS n0p nin0)
  have F13_a0_size := Fld.keep F11_a0_size K13 (ninS n0p nin0)
  have F13_a0_taken := Fld.keep F11_a0_taken K13 (ninS n0p nin0)
  have A13_bh := Ary.keep V11 K13 (ninS nhp nin0)
  have A13_bd := Ary.keep A11_bd K13 (ninS ndp nin0)
  have Z13 : n0 ≤ h13.size := Nat.le_trans Z11 K13.1
  have KK13 : Keep h0 h13 [a0, bh, bd, bp] := KK11.trans K13 (allS (Or.inl (List.mem_of_getElem? (i := 3) rfl)) all0)
  refine go st13 ?_
  show Run _ _ _ _ _ _ _ T13 (mkF m 105 #[.val (.ref a0), .val (.int (0 : Int32))] [])
  refine go (T' := T13) (f' := (mkF m 106 #[.val (.ref a0), .val (.int (0 : Int32))] [(.int (0 : Int32))])) (by intro t k; exact XS.iloadN X13.here hx rfl (hb hby d11_105) rfl k) ?_
  refine retW X13 hx (t := .int) Bd.returns rfl (Or.inl ⟨rfl, Or.inl rfl, _, rfl⟩) (hb hby d11_106) hlk (by decide) (by decide) ?_
  show Q11t38 Z a0 bh bd bp x0 x1 h0 n0 _ T13.heap _
  rw [e13]
  have hv : (some (.int (0 : Int32)) : Option Value) = some (.int (0 : Int32)) := rfl
  exact ⟨hv, N13, KK13, ⟨E13_a0, F13_a0_heap, F13_a0_priorities, F13_a0_places, F13_a0_size, F13_a0_taken, A13_bh, A13_bd, V13, g0, gh, gd, gp, n0h, n0d, n0p, nhd, nhp, ndp⟩⟩
theorem ef_5t39 (m : MethodId) (x0 : Addr) : entryFrame m #[(.ref x0)] 2 = mkF m 0 #[.val (.ref x0), .unset] [] := by first | (simp [entryFrame, mkF, argsToLocals, Value.category]; done) | rfl
def Q5t39 (Z : State) (a0 : Addr) (bh bd bp : Addr) (x0 x1 : UInt64) (h0 : Heap) (n0 : Nat) (v : Option Value) (h : Heap) (L : List Loc) : Prop := v = none ∧ Fr n0 L ∧ Keep h0 h [a0, bh, bd, bp] ∧ own_st Z n0 h a0 bh bd bp (0 : Int32) (1 : Int32) (-1 : Int32) (-1 : Int32) (0 : Int32) (0 : Int32) x0 x1
set_option maxRecDepth 65536 in
set_option maxHeartbeats 40000000 in
theorem rm5t39 (l : Launch) (Z : State) (aw : Array Value) (hw : ∀ d ∈ tables_1, d.before aw Z = true) (ws : List Jvm.Cond) (a0 : Addr) (bh bd bp : Addr) (x0 x1 : UInt64) (h0 : Heap) (n0 : Nat) (Z0 : n0 ≤ h0.size) (St : own_st Z n0 h0 a0 bh bd bp (0 : Int32) (1 : Int32) (-2 : Int32) (-2 : Int32) (0 : Int32) (2 : Int32) x0 x1) :
    MetFree l mclear (head1 (Jvm.Cond.code mclear prog_64_method_3_code 2 none :: ws) rO0) (fun a U => a = #[(.ref a0)] ∧ Z.Warmed39 U.vm ∧ U.heap = h0) (fun _ _ _ _ _ => True) (fun _ U o U' => ∃ v L, o = .returned v ∧ Q5t39 Z a0 bh bd bp x0 x1 h0 n0 v U'.heap L ∧ FrameEnd U o U' L rO0.cells rO0.slots) := by
  refine MetFree.of_bodySF (plainFor_of_name pn_1) hisR ?_
  intro p e s m args below meth c s₁ Bd hml0 hP hK
  obtain ⟨rfl, hZ, hh⟩ := hP
  have hx := Bd.exec
  have hby := Bd.bytes
  have hml : c.maxLocals = 2 := hml0
  have hown : s.vm.findClass "com/example/wayshard/wayshard/service/VertexQueue" = some m.cls := findClass_of_methodNamed Bd.named
  have hnm := (name_of_methodNamed Bd.named Bd.method).1
  have hlk : meth.locks = false := BodyLoose.notSynchronized Bd
  have X0 : Stand p l e rO0 s m #[(.ref a0)] below meth c s₁ [] 0 0 := Stand.of_body Bd
  have e0 : s₁.heap = h0 := by rw [← hh, Bd.state]; rfl
  have N0 := Fr.nil n0
  show Run p e s below (Q5t39 Z a0 bh bd bp x0 x1 h0 n0) rO0.cells rO0.slots s₁ (entryFrame m #[(.ref a0)] 2)
  rw [ef_5t39]
  obtain ⟨E, Fh, Fd, Fp, Fs, Ft, Ah, Ad, Ap, g0, gh, gd, gp, n0h, n0d, n0p, nhd, nhp, ndp⟩ := St
  show Run _ _ _ _ _ _ _ s₁ (mkF m 0 #[.val (.ref a0), .unset] [])
  refine go (T' := s₁) (f' := (mkF m 1 #[.val (.ref a0), .unset] [(.int (0 : Int32))])) (by intro t k; exact XS.iconst X0.here hx rfl (hb hby d5_0) k) ?_
  refine go (T' := s₁) (f' := (mkF m 2 #[.val (.ref a0), .val (.int (0 : Int32))] [])) (by intro t k; exact XS.istoreN X0.here hx rfl (hb hby d5_1) rfl (l' := #[.val (.ref a0), .val (.int (0 : Int32))]) rfl k) ?_
  refine go (T' := s₁) (f' := (mkF m 3 #[.val (.ref a0), .val (.int (0 : Int32))] [(.int (0 : Int32))])) (by intro t k; exact XS.iloadN X0.here hx rfl (hb hby d5_2) rfl k) ?_
  refine go (T' := s₁) (f' := (mkF m 4 #[.val (.ref a0), .val (.int (0 : Int32))] [(.ref a0), (.int (0 : Int32))])) (by intro t k; exact XS.aloadN X0.here hx rfl (hb hby d5_3) rfl rfl k) ?_
  obtain ⟨T1, X1, e1, st1⟩ := getF X0 hx hZ hown (host := "") (Or.inl (tw hw 30 rfl)) Via.refl e0 Fs (g := (mkF m 4 #[.val (.ref a0), .val (.int (0 : Int32))] [(.ref a0), (.int (0 : Int32))])) rfl rfl (hb hby d5_4)
  refine go st1 ?_
  show Run _ _ _ _ _ _ _ T1 (mkF m 7 #[.val (.ref a0), .val (.int (0 : Int32))] [(.int (0 : Int32)), (.int (0 : Int32))])
  refine go (T' := T1) (f' := (mkF m 28 #[.val (.ref a0), .val (.int (0 : Int32))] [])) (by intro t k; exact XS.icmpYes X1.here hx rfl (pc0 := 7) (pc' := 28) rfl (hb hby d5_7) rfl (flt (by decide : ¬ ((0 : Int32) < (0 : Int32)))).2.1 (by decide) (by decide) k) ?_
  refine go (T' := T1) (f' := (mkF m 29 #[.val (.ref a0), .val (.int (0 : Int32))] [(.ref a0)])) (by intro t k; exact XS.aloadN X1.here hx rfl (hb hby d5_28) rfl rfl k) ?_
  obtain ⟨T2, X2, e2, st2⟩ := getF X1 hx hZ hown (host := "") (Or.inl (tw hw 10 rfl)) Via.refl e1 Fh (g := (mkF m 29 #[.val (.ref a0), .val (.int (0 : Int32))] [(.ref a0)])) rfl rfl (hb hby d5_29)
  refine go st2 ?_
  show Run _ _ _ _ _ _ _ T2 (mkF m 32 #[.val (.ref a0), .val (.int (0 : Int32))] [(.ref bh)])
  refine go (T' := T2) (f' := (mkF m 33 #[.val (.ref a0), .val (.int (0 : Int32))] [(.int (2 : Int32))])) (by intro t k; exact alen X2 hx hZ e2 Ah (z := (2 : Int32)) rfl (g := (mkF m 32 #[.val (.ref a0), .val (.int (0 : Int32))] [(.ref bh)])) rfl rfl (hb hby d5_32) _ k) ?_
  refine go (T' := T2) (f' := (mkF m 34 #[.val (.ref a0), .val (.int (0 : Int32))] [(.ref a0), (.int (2 : Int32))])) (by intro t k; exact XS.aloadN X2.here hx rfl (hb hby d5_33) rfl rfl k) ?_
  obtain ⟨T3, X3, e3, st3⟩ := getF X2 hx hZ hown (host := "") (Or.inl (tw hw 32 rfl)) Via.refl e2 Ft (g := (mkF m 34 #[.val (.ref a0), .val (.int (0 : Int32))] [(.ref a0), (.int (2 : Int32))])) rfl rfl (hb hby d5_34)
  refine go st3 ?_
  show Run _ _ _ _ _ _ _ T3 (mkF m 37 #[.val (.ref a0), .val (.int (0 : Int32))] [(.int (2 : Int32)), (.int (2 : Int32))])
  refine go (T' := T3) (f' := (mkF m 38 #[.val (.ref a0), .val (.int (0 : Int32))] [(.int (0 : Int32))])) (by intro t k; exact XS.isub X3.here hx rfl (hb hby d5_37) rfl k) ?_
  refine go (T' := T3) (f' := (mkF m 39 #[.val (.ref a0), .val (.int (0 : Int32))] [])) (by intro t k; exact XS.istoreN X3.here hx rfl (hb hby d5_38) rfl (l' := #[.val (.ref a0), .val (.int (0 : Int32))]) rfl k) ?_
  refine go (T' := T3) (f' := (mkF m 40 #[.val (.ref a0), .val (.int (0 : Int32))] [(.int (0 : Int32))])) (by intro t k; exact XS.iloadN X3.here hx rfl (hb hby d5_39) rfl k) ?_
  refine go (T' := T3) (f' := (mkF m 41 #[.val (.ref a0), .val (.int (0 : Int32))] [(.ref a0), (.int (0 : Int32))])) (by intro t k; exact XS.aloadN X3.here hx rfl (hb hby d5_40) rfl rfl k) ?_
  obtain ⟨T4, X4, e4, st4⟩ := getF X3 hx hZ hown (host := "") (Or.inl (tw hw 10 rfl)) Via.refl e3 Fh (g := (mkF m 41 #[.val (.ref a0), .val (.int (0 : Int32))] [(.ref a0), (.int (0 : Int32))])) rfl rfl (hb hby d5_41)
  refine go st4 ?_
  show Run _ _ _ _ _ _ _ T4 (mkF m 44 #[.val (.ref a0), .val (.int (0 : Int32))] [(.ref bh), (.int (0 : Int32))])
  refine go (T' := T4) (f' := (mkF m 45 #[.val (.ref a0), .val (.int (0 : Int32))] [(.int (2 : Int32)), (.int (0 : Int32))])) (by intro t k; exact alen X4 hx hZ e4 Ah (z := (2 : Int32)) rfl (g := (mkF m 44 #[.val (.ref a0), .val (.int (0 : Int32))] [(.ref bh), (.int (0 : Int32))])) rfl rfl (hb hby d5_44) _ k) ?_
  refine go (T' := T4) (f' := (mkF m 48 #[.val (.ref a0), .val (.int (0 : Int32))] [])) (by intro t k; exact XS.icmpNo X4.here hx rfl (hb hby d5_45) rfl (tlt (by decide : (0 : Int32) < (2 : Int32))).2.1 k) ?_
  refine go (T' := T4) (f' := (mkF m 49 #[.val (.ref a0), .val (.int (0 : Int32))] [(.ref a0)])) (by intro t k; exact XS.aloadN X4.here hx rfl (hb hby d5_48) rfl rfl k) ?_
  obtain ⟨T5, X5, e5, st5⟩ := getF X4 hx hZ hown (host := "") (Or.inl (tw hw 15 rfl)) Via.refl e4 Fp (g := (mkF m 49 #[.val (.ref a0), .val (.int (0 : Int32))] [(.ref a0)])) rfl rfl (hb hby d5_49)
  refine go st5 ?_
  show Run _ _ _ _ _ _ _ T5 (mkF m 52 #[.val (.ref a0), .val (.int (0 : Int32))] [(.ref bp)])
  refine go (T' := T5) (f' := (mkF m 53 #[.val (.ref a0), .val (.int (0 : Int32))] [(.ref a0), (.ref bp)])) (by intro t k; exact XS.aloadN X5.here hx rfl (hb hby d5_52) rfl rfl k) ?_
  obtain ⟨T6, X6, e6, st6⟩ := getF X5 hx hZ hown (host := "") (Or.inl (tw hw 10 rfl)) Via.refl e5 Fh (g := (mkF m 53 #[.val (.ref a0), .val (.int (0 : Int32))] [(.ref a0), (.ref bp)])) rfl rfl (hb hby d5_53)
  refine go st6 ?_
  show Run _ _ _ _ _ _ _ T6 (mkF m 56 #[.val (.ref a0), .val (.int (0 : Int32))] [(.ref bh), (.ref bp)])
  refine go (T' := T6) (f' := (mkF m 57 #[.val (.ref a0), .val (.int (0 : Int32))] [(.int (0 : Int32)), (.ref bh), (.ref bp)])) (by intro t k; exact XS.iloadN X6.here hx rfl (hb hby d5_56) rfl k) ?_
  refine go (T' := T6) (f' := (mkF m 58 #[.val (.ref a0), .val (.int (0 : Int32))] [(.int (0 : Int32)), (.ref bp)])) (by intro t k; exact ldI X6 hx hZ e6 Ah (j := (0 : Int32)) (v := (.int (0 : Int32))) (by decide) rfl (g := (mkF m 57 #[.val (.ref a0), .val (.int (0 : Int32))] [(.int (0 : Int32)), (.ref bh), (.ref bp)])) rfl rfl (hb hby d5_57) _ k) ?_
  refine go (T' := T6) (f' := (mkF m 59 #[.val (.ref a0), .val (.int (0 : Int32))] [(.int (-1 : Int32)), (.int (0 : Int32)), (.ref bp)])) (by intro t k; exact XS.iconst X6.here hx rfl (hb hby d5_58) k) ?_
  obtain ⟨cl7, Ar7, hin7⟩ := Ary.st (j := (0 : Int32)) Ap (by decide) (by show (0 : Int32).toNatClampNeg < 2; decide)
  obtain ⟨T7, h7, X7, e7, W7, st7⟩ := stI X6 hx hZ e6 Ar7 (j := (0 : Int32)) hin7 (g := (mkF m 59 #[.val (.ref a0), .val (.int (0 : Int32))] [(.int (-1 : Int32)), (.int (0 : Int32)), (.ref bp)])) rfl rfl (hb hby d5_59)
  have K7 : Keep h0 h7 [bp] := Keep.of_wr W7
  have V7 : Ary Z h7 bp .int [(.int (-1 : Int32)), (.int (-2 : Int32))] := Ary.set Ap W7 rfl
  have N7 := Fr.snoc X7 N0 gp
  have E7_a0 := Exa.keep E K7
  have F7_a0_heap := Fld.keep Fh K7 (ninS n0p nin0)
  have F7_a0_priorities := Fld.keep Fd K7 (ninS n0p nin0)
  have F7_a0_places := Fld.keep Fp K7 (ninS n0p nin0)
  have F7_a0_size := Fld.keep Fs K7 (ninS n0p nin0)
  have F7_a0_taken := Fld.keep Ft K7 (ninS n0p nin0)
  have A7_bh := Ary.keep Ah K7 (ninS nhp nin0)
  have A7_bd := Ary.keep Ad K7 (ninS ndp nin0)
  have Z7 : n0 ≤ h7.size := Nat.le_trans Z0 K7.1
  have KK7 : Keep h0 h7 [a0, bh, bd, bp] := (Keep.refl _ _).trans K7 (allS (Or.inl (List.mem_of_getElem? (i := 3) rfl)) all0)
  refine go st7 ?_
  show Run _ _ _ _ _ _ _ T7 (mkF m 60 #[.val (.ref a0), .val (.int (0 : Int32))] [])
  refine go (T' := T7) (f' := (mkF m 63 #[.val (.ref a0), .val (.int (1 : Int32))] [])) (by intro t k; exact XS.iinc X7.here hx rfl (hb hby d5_60) rfl (l' := #[.val (.ref a0), .val (.int (1 : Int32))]) rfl k) ?_
  refine go (T' := T7) (f' := (mkF m 39 #[.val (.ref a0), .val (.int (1 : Int32))] [])) (by intro t k; exact XS.goto X7.here hx rfl (pc0 := 63) (pc' := 39) rfl (hb hby d5_63) (by decide) (by decide) k) ?_
  refine go (T' := T7) (f' := (mkF m 40 #[.val (.ref a0), .val (.int (1 : Int32))] [(.int (1 : Int32))])) (by intro t k; exact XS.iloadN X7.here hx rfl (hb hby d5_39) rfl k) ?_
  refine go (T' := T7) (f' := (mkF m 41 #[.val (.ref a0), .val (.int (1 : Int32))] [(.ref a0), (.int (1 : Int32))])) (by intro t k; exact XS.aloadN X7.here hx rfl (hb hby d5_40) rfl rfl k) ?_
  obtain ⟨T8, X8, e8, st8⟩ := getF X7 hx hZ hown (host := "") (Or.inl (tw hw 10 rfl)) Via.refl e7 F7_a0_heap (g := (mkF m 41 #[.val (.ref a0), .val (.int (1 : Int32))] [(.ref a0), (.int (1 : Int32))])) rfl rfl (hb hby d5_41)
  refine go st8 ?_
  show Run _ _ _ _ _ _ _ T8 (mkF m 44 #[.val (.ref a0), .val (.int (1 : Int32))] [(.ref bh), (.int (1 : Int32))])
  refine go (T' := T8) (f' := (mkF m 45 #[.val (.ref a0), .val (.int (1 : Int32))] [(.int (2 : Int32)), (.int (1 : Int32))])) (by intro t k; exact alen X8 hx hZ e8 A7_bh (z := (2 : Int32)) rfl (g := (mkF m 44 #[.val (.ref a0), .val (.int (1 : Int32))] [(.ref bh), (.int (1 : Int32))])) rfl rfl (hb hby d5_44) _ k) ?_
  refine go (T' := T8) (f' := (mkF m 48 #[.val (.ref a0), .val (.int (1 : Int32))] [])) (by intro t k; exact XS.icmpNo X8.here hx rfl (hb hby d5_45) rfl (tlt (by decide : (1 : Int32) < (2 : Int32))).2.1 k) ?_
  refine go (T' := T8) (f' := (mkF m 49 #[.val (.ref a0), .val (.int (1 : Int32))] [(.ref a0)])) (by intro t k; exact XS.aloadN X8.here hx rfl (hb hby d5_48) rfl rfl k) ?_
  obtain ⟨T9, X9, e9, st9⟩ := getF X8 hx hZ hown (host := "") (Or.inl (tw hw 15 rfl)) Via.refl e8 F7_a0_places (g := (mkF m 49 #[.val (.ref a0), .val (.int (1 : Int32))] [(.ref a0)])) rfl rfl (hb hby d5_49)
  refine go st9 ?_
  show Run _ _ _ _ _ _ _ T9 (mkF m 52 #[.val (.ref a0), .val (.int (1 : Int32))] [(.ref bp)])
  refine go (T' := T9) (f' := (mkF m 53 #[.val (.ref a0), .val (.int (1 : Int32))] [(.ref a0), (.ref bp)])) (by intro t k; exact XS.aloadN X9.here hx rfl (hb hby d5_52) rfl rfl k) ?_
  obtain ⟨T10, X10, e10, st10⟩ := getF X9 hx hZ hown (host := "") (Or.inl (tw hw 10 rfl)) Via.refl e9 F7_a0_heap (g := (mkF m 53 #[.val (.ref a0), .val (.int (1 : Int32))] [(.ref a0), (.ref bp)])) rfl rfl (hb hby d5_53)
  refine go st10 ?_
  show Run _ _ _ _ _ _ _ T10 (mkF m 56 #[.val (.ref a0), .val (.int (1 : Int32))] [(.ref bh), (.ref bp)])
  refine go (T' := T10) (f' := (mkF m 57 #[.val (.ref a0), .val (.int (1 : Int32))] [(.int (1 : Int32)), (.ref bh), (.ref bp)])) (by intro t k; exact XS.iloadN X10.here hx rfl (hb hby d5_56) rfl k) ?_
  refine go (T' := T10) (f' := (mkF m 58 #[.val (.ref a0), .val (.int (1 : Int32))] [(.int (1 : Int32)), (.ref bp)])) (by intro t k; exact ldI X10 hx hZ e10 A7_bh (j := (1 : Int32)) (v := (.int (1 : Int32))) (by decide) rfl (g := (mkF m 57 #[.val (.ref a0), .val (.int (1 : Int32))] [(.int (1 : Int32)), (.ref bh), (.ref bp)])) rfl rfl (hb hby d5_57) _ k) ?_
  refine go (T' := T10) (f' := (mkF m 59 #[.val (.ref a0), .val (.int (1 : Int32))] [(.int (-1 : Int32)), (.int (1 : Int32)), (.ref bp)])) (by intro t k; exact XS.iconst X10.here hx rfl (hb hby d5_58) k) ?_
  obtain ⟨cl11, Ar11, hin11⟩ := Ary.st (j := (1 : Int32)) V7 (by decide) (by show (1 : Int32).toNatClampNeg < 2; decide)
  obtain ⟨T11, h11, X11, e11, W11, st11⟩ := stI X10 hx hZ e10 Ar11 (j := (1 : Int32)) hin11 (g := (mkF m 59 #[.val (.ref a0), .val (.int (1 : Int32))] [(.int (-1 : Int32)), (.int (1 : Int32)), (.ref bp)])) rfl rfl (hb hby d5_59)
  have K11 : Keep h7 h11 [bp] := Keep.of_wr W11
  have V11 : Ary Z h11 bp .int [(.int (-1 : Int32)), (.int (-1 : Int32))] := Ary.set V7 W11 rfl
  have N11 := Fr.snoc X11 N7 gp
  have E11_a0 := Exa.keep E7_a0 K11
  have F11_a0_heap := Fld.keep F7_a0_heap K11 (ninS n0p nin0)
  have F11_a0_priorities := Fld.keep F7_a0_priorities K11 (ninS n0p nin0)
  have F11_a0_places := Fld.keep F7_a0_places K11 (ninS n0p nin0)
  have F11_a0_size := Fld.keep F7_a0_size K11 (ninS n0p nin0)
  have F11_a0_taken := Fld.keep F7_a0_taken K11 (ninS n0p nin0)
  have A11_bh := Ary.keep A7_bh K11 (ninS nhp nin0)
  have A11_bd := Ary.keep A7_bd K11 (ninS ndp nin0)
  have Z11 : n0 ≤ h11.size := Nat.le_trans Z7 K11.1
  have KK11 : Keep h0 h11 [a0, bh, bd, bp] := KK7.trans K11 (allS (Or.inl (List.mem_of_getElem? (i := 3) rfl)) all0)
  refine go st11 ?_
  show Run _ _ _ _ _ _ _ T11 (mkF m 60 #[.val (.ref a0), .val (.int (1 : Int32))] [])
  refine go (T' := T11) (f' := (mkF m 63 #[.val (.ref a0), .val (.int (2 : Int32))] [])) (by intro t k; exact XS.iinc X11.here hx rfl (hb hby d5_60) rfl (l' := #[.val (.ref a0), .val (.int (2 : Int32))]) rfl k) ?_
  refine go (T' := T11) (f' := (mkF m 39 #[.val (.ref a0), .val (.int (2 : Int32))] [])) (by intro t k; exact XS.goto X11.here hx rfl (pc0 := 63) (pc' := 39) rfl (hb hby d5_63) (by decide) (by decide) k) ?_
  refine go (T' := T11) (f' := (mkF m 40 #[.val (.ref a0), .val (.int (2 : Int32))] [(.int (2 : Int32))])) (by intro t k; exact XS.iloadN X11.here hx rfl (hb hby d5_39) rfl k) ?_
  refine go (T' := T11) (f' := (mkF m 41 #[.val (.ref a0), .val (.int (2 : Int32))] [(.ref a0), (.int (2 : Int32))])) (by intro t k; exact XS.aloadN X11.here hx rfl (hb hby d5_40) rfl rfl k) ?_
  obtain ⟨T12, X12, e12, st12⟩ := getF X11 hx hZ hown (host := "") (Or.inl (tw hw 10 rfl)) Via.refl e11 F11_a0_heap (g := (mkF m 41 #[.val (.ref a0), .val (.int (2 : Int32))] [(.ref a0), (.int (2 : Int32))])) rfl rfl (hb hby d5_41)
  refine go st12 ?_
  show Run _ _ _ _ _ _ _ T12 (mkF m 44 #[.val (.ref a0), .val (.int (2 : Int32))] [(.ref bh), (.int (2 : Int32))])
  refine go (T' := T12) (f' := (mkF m 45 #[.val (.ref a0), .val (.int (2 : Int32))] [(.int (2 : Int32)), (.int (2 : Int32))])) (by intro t k; exact alen X12 hx hZ e12 A11_bh (z := (2 : Int32)) rfl (g := (mkF m 44 #[.val (.ref a0), .val (.int (2 : Int32))] [(.ref bh), (.int (2 : Int32))])) rfl rfl (hb hby d5_44) _ k) ?_
  refine go (T' := T12) (f' := (mkF m 66 #[.val (.ref a0), .val (.int (2 : Int32))] [])) (by intro t k; exact XS.icmpYes X12.here hx rfl (pc0 := 45) (pc' := 66) rfl (hb hby d5_45) rfl (flt (by decide : ¬ ((2 : Int32) < (2 : Int32)))).2.1 (by decide) (by decide) k) ?_
  refine go (T' := T12) (f' := (mkF m 67 #[.val (.ref a0), .val (.int (2 : Int32))] [(.ref a0)])) (by intro t k; exact XS.aloadN X12.here hx rfl (hb hby d5_66) rfl rfl k) ?_
  refine go (T' := T12) (f' := (mkF m 68 #[.val (.ref a0), .val (.int (2 : Int32))] [(.int (0 : Int32)), (.ref a0)])) (by intro t k; exact XS.iconst X12.here hx rfl (hb hby d5_67) k) ?_
  obtain ⟨T13, h13, X13, e13, W13, st13⟩ := putF X12 hx hZ hown (host := "") (Or.inl (tw hw 30 rfl)) Via.refl e12 F11_a0_size E11_a0 (Or.inl (tw hw 31 rfl)) (tw hw 1 rfl) (ty := .int) (by decide) rfl rfl (g := (mkF m 68 #[.val (.ref a0), .val (.int (2 : Int32))] [(.int (0 : Int32)), (.ref a0)])) rfl rfl (hb hby d5_68)
  have K13 : Keep h11 h13 [a0] := Keep.of_wr W13
  have F13_a0_heap := Fld.other W13 F11_a0_heap (Or.inr (slot_ne (Or.inr (tw hw 11 rfl)) (Or.inl (tw hw 31 rfl)) (by decide) (t := (.array .int)) (t' := .int) (by decide) (by decide)))
  have F13_a0_priorities := Fld.other W13 F11_a0_priorities (Or.inr (slot_ne (Or.inr (tw hw 14 rfl)) (Or.inl (tw hw 31 rfl)) (by decide) (t := (.array .double)) (t' := .int) (by decide) (by decide)))
  have F13_a0_places := Fld.other W13 F11_a0_places (Or.inr (slot_ne (Or.inr (tw hw 16 rfl)) (Or.inl (tw hw 31 rfl)) (by decide) (t := (.array .int)) (t' := .int) (by decide) (by decide)))
  have F13_a0_size : Fld Z h13 a0 "com/example/wayshard/wayshard/service/VertexQueue" "size" "I" (.int (0 : Int32)) := F11_a0_size.same W13
  have F13_a0_taken := Fld.other W13 F11_a0_taken (Or.inr (slot_ne (Or.inl (tw hw 33 rfl)) (Or.inl (tw hw 31 rfl)) (by decide) (t := .int) (t' := .int) (by decide) (by decide)))
  have N13 := Fr.snoc X13 N11 g0
  have E13_a0 := Exa.keep E11_a0 K13
  have A13_bh := Ary.keep A11_bh K13 (ninS (Ne.symm n0h) nin0)
  have A13_bd := Ary.keep A11_bd K13 (ninS (Ne.symm n0d) nin0)
  have A13_bp := Ary.keep V11 K13 (ninS (Ne.symm n0p) nin0)
  have Z13 : n0 ≤ h13.size := Nat.le_trans Z11 K13.1
  have KK13 : Keep h0 h13 [a0, bh, bd, bp] := KK11.trans K13 (allS (Or.inl (List.mem_of_getElem? (i := 0) rfl)) all0)
  refine go st13 ?_
  show Run _ _ _ _ _ _ _ T13 (mkF m 71 #[.val (.ref a0), .val (.int (2 : Int32))] [])
  refine go (T' := T13) (f' := (mkF m 72 #[.val (.ref a0), .val (.int (2 : Int32))] [(.ref a0)])) (by intro t k; exact XS.aloadN X13.here hx rfl (hb hby d5_71) rfl rfl k) ?_
  refine go (T' := T13) (f' := (mkF m 73 #[.val (.ref a0), .val (.int (2 : Int32))] [(.int (0 : Int32)), (.ref a0)])) (by intro t k; exact XS.iconst X13.here hx rfl (hb hby d5_72) k) ?_
  obtain ⟨T14, h14, X14, e14, W14, st14⟩ := putF X13 hx hZ hown (host := "") (Or.inl (tw hw 32 rfl)) Via.refl e13 F13_a0_taken E13_a0 (Or.inl (tw hw 33 rfl)) (tw hw 1 rfl) (ty := .int) (by decide) rfl rfl (g := (mkF m 73 #[.val (.ref a0), .val (.int (2 : Int32))] [(.int (0 : Int32)), (.ref a0)])) rfl rfl (hb hby d5_73)
  have K14 : Keep h13 h14 [a0] := Keep.of_wr W14
  have F14_a0_heap := Fld.other W14 F13_a0_heap (Or.inr (slot_ne (Or.inr (tw hw 11 rfl)) (Or.inl (tw hw 33 rfl)) (by decide) (t := (.array .int)) (t' := .int) (by decide) (by decide)))
  have F14_a0_priorities := Fld.other W14 F13_a0_priorities (Or.inr (slot_ne (Or.inr (tw hw 14 rfl)) (Or.inl (tw hw 33 rfl)) (by decide) (t := (.array .double)) (t' := .int) (by decide) (by decide)))
  have F14_a0_places := Fld.other W14 F13_a0_places (Or.inr (slot_ne (Or.inr (tw hw 16 rfl)) (Or.inl (tw hw 33 rfl)) (by decide) (t := (.array .int)) (t' := .int) (by decide) (by decide)))
  have F14_a0_size := Fld.other W14 F13_a0_size (Or.inr (slot_ne (Or.inl (tw hw 31 rfl)) (Or.inl (tw hw 33 rfl)) (by decide) (t := .int) (t' := .int) (by decide) (by decide)))
  have F14_a0_taken : Fld Z h14 a0 "com/example/wayshard/wayshard/service/VertexQueue" "taken" "I" (.int (0 : Int32)) := F13_a0_taken.same W14
  have N14 := Fr.snoc X14 N13 g0
  have E14_a0 := Exa.keep E13_a0 K14
  have A14_bh := Ary.keep A13_bh K14 (ninS (Ne.symm n0h) nin0)
  have A14_bd := Ary.keep A13_bd K14 (ninS (Ne.symm n0d) nin0)
  have A14_bp := Ary.keep A13_bp K14 (ninS (Ne.symm n0p) nin0)
  have Z14 : n0 ≤ h14.size := Nat.le_trans Z13 K14.1
  have KK14 : Keep h0 h14 [a0, bh, bd, bp] := KK13.trans K14 (allS (Or.inl (List.mem_of_getElem? (i := 0) rfl)) all0)
  refine go st14 ?_
  show Run _ _ _ _ _ _ _ T14 (mkF m 76 #[.val (.ref a0), .val (.int (2 : Int32))] [])
  refine retV X14 hx Bd.returns (hb hby d5_76) hlk (by decide) (by decide) ?_
  show Q5t39 Z a0 bh bd bp x0 x1 h0 n0 _ T14.heap _
  rw [e14]
  exact ⟨rfl, N14, KK14, ⟨E14_a0, F14_a0_heap, F14_a0_priorities, F14_a0_places, F14_a0_size, F14_a0_taken, A14_bh, A14_bd, A14_bp, g0, gh, gd, gp, n0h, n0d, n0p, nhd, nhp, ndp⟩⟩
theorem ef_5t40 (m : MethodId) (x0 : Addr) : entryFrame m #[(.ref x0)] 2 = mkF m 0 #[.val (.ref x0), .unset] [] := by first | (simp [entryFrame, mkF, argsToLocals, Value.category]; done) | rfl
def Q5t40 (Z : State) (a0 : Addr) (bh bd bp : Addr) (x0 x1 : UInt64) (h0 : Heap) (n0 : Nat) (v : Option Value) (h : Heap) (L : List Loc) : Prop := v = none ∧ Fr n0 L ∧ Keep h0 h [a0, bh, bd, bp] ∧ own_st Z n0 h a0 bh bd bp (0 : Int32) (1 : Int32) (-1 : Int32) (-1 : Int32) (0 : Int32) (0 : Int32) x0 x1
set_option maxRecDepth 65536 in
set_option maxHeartbeats 40000000 in
theorem rm5t40 (l : Launch) (Z : State) (aw : Array Value) (hw : ∀ d ∈ tables_1, d.before aw Z = true) (ws : List Jvm.Cond) (a0 : Addr) (bh bd bp : Addr) (x0 x1 : UInt64) (h0 : Heap) (n0 : Nat) (Z0 : n0 ≤ h0.size) (St : own_st Z n0 h0 a0 bh bd bp (0 : Int32) (1 : Int32) (0 : Int32) (1 : Int32) (2 : Int32) (0 : Int32) x0 x1) :
    MetFree l mclear (head1 (Jvm.Cond.code mclear prog_64_method_3_code 2 none :: ws) rO0) (fun a U => a = #[(.ref a0)] ∧ Z.Warmed39 U.vm ∧ U.heap = h0) (fun _ _ _ _ _ => True) (fun _ U o U' => ∃ v L, o = .returned v ∧ Q5t40 Z a0 bh bd bp x0 x1 h0 n0 v U'.heap L ∧ FrameEnd U o U' L rO0.cells rO0.slots) := by
  refine MetFree.of_bodySF (plainFor_of_name pn_1) hisR ?_
  intro p e s m args below meth c s₁ Bd hml0 hP hK
  obtain ⟨rfl, hZ, hh⟩ := hP
  have hx := Bd.exec
  have hby := Bd.bytes
  have hml : c.maxLocals = 2 := hml0
  have hown : s.vm.findClass "com/example/wayshard/wayshard/service/VertexQueue" = some m.cls := findClass_of_methodNamed Bd.named
  have hnm := (name_of_methodNamed Bd.named Bd.method).1
  have hlk : meth.locks = false := BodyLoose.notSynchronized Bd
  have X0 : Stand p l e rO0 s m #[(.ref a0)] below meth c s₁ [] 0 0 := Stand.of_body Bd
  have e0 : s₁.heap = h0 := by rw [← hh, Bd.state]; rfl
  have N0 := Fr.nil n0
  show Run p e s below (Q5t40 Z a0 bh bd bp x0 x1 h0 n0) rO0.cells rO0.slots s₁ (entryFrame m #[(.ref a0)] 2)
  rw [ef_5t40]
  obtain ⟨E, Fh, Fd, Fp, Fs, Ft, Ah, Ad, Ap, g0, gh, gd, gp, n0h, n0d, n0p, nhd, nhp, ndp⟩ := St
  show Run _ _ _ _ _ _ _ s₁ (mkF m 0 #[.val (.ref a0), .unset] [])
  refine go (T' := s₁) (f' := (mkF m 1 #[.val (.ref a0), .unset] [(.int (0 : Int32))])) (by intro t k; exact XS.iconst X0.here hx rfl (hb hby d5_0) k) ?_
  refine go (T' := s₁) (f' := (mkF m 2 #[.val (.ref a0), .val (.int (0 : Int32))] [])) (by intro t k; exact XS.istoreN X0.here hx rfl (hb hby d5_1) rfl (l' := #[.val (.ref a0), .val (.int (0 : Int32))]) rfl k) ?_
  refine go (T' := s₁) (f' := (mkF m 3 #[.val (.ref a0), .val (.int (0 : Int32))] [(.int (0 : Int32))])) (by intro t k; exact XS.iloadN X0.here hx rfl (hb hby d5_2) rfl k) ?_
  refine go (T' := s₁) (f' := (mkF m 4 #[.val (.ref a0), .val (.int (0 : Int32))] [(.ref a0), (.int (0 : Int32))])) (by intro t k; exact XS.aloadN X0.here hx rfl (hb hby d5_3) rfl rfl k) ?_
  obtain ⟨T1, X1, e1, st1⟩ := getF X0 hx hZ hown (host := "") (Or.inl (tw hw 30 rfl)) Via.refl e0 Fs (g := (mkF m 4 #[.val (.ref a0), .val (.int (0 : Int32))] [(.ref a0), (.int (0 : Int32))])) rfl rfl (hb hby d5_4)
  refine go st1 ?_
  show Run _ _ _ _ _ _ _ T1 (mkF m 7 #[.val (.ref a0), .val (.int (0 : Int32))] [(.int (2 : Int32)), (.int (0 : Int32))])
  refine go (T' := T1) (f' := (mkF m 10 #[.val (.ref a0), .val (.int (0 : Int32))] [])) (by intro t k; exact XS.icmpNo X1.here hx rfl (hb hby d5_7) rfl (tlt (by decide : (0 : Int32) < (2 : Int32))).2.1 k) ?_
  refine go (T' := T1) (f' := (mkF m 11 #[.val (.ref a0), .val (.int (0 : Int32))] [(.ref a0)])) (by intro t k; exact XS.aloadN X1.here hx rfl (hb hby d5_10) rfl rfl k) ?_
  obtain ⟨T2, X2, e2, st2⟩ := getF X1 hx hZ hown (host := "") (Or.inl (tw hw 15 rfl)) Via.refl e1 Fp (g := (mkF m 11 #[.val (.ref a0), .val (.int (0 : Int32))] [(.ref a0)])) rfl rfl (hb hby d5_11)
  refine go st2 ?_
  show Run _ _ _ _ _ _ _ T2 (mkF m 14 #[.val (.ref a0), .val (.int (0 : Int32))] [(.ref bp)])
  refine go (T' := T2) (f' := (mkF m 15 #[.val (.ref a0), .val (.int (0 : Int32))] [(.ref a0), (.ref bp)])) (by intro t k; exact XS.aloadN X2.here hx rfl (hb hby d5_14) rfl rfl k) ?_
  obtain ⟨T3, X3, e3, st3⟩ := getF X2 hx hZ hown (host := "") (Or.inl (tw hw 10 rfl)) Via.refl e2 Fh (g := (mkF m 15 #[.val (.ref a0), .val (.int (0 : Int32))] [(.ref a0), (.ref bp)])) rfl rfl (hb hby d5_15)
  refine go st3 ?_
  show Run _ _ _ _ _ _ _ T3 (mkF m 18 #[.val (.ref a0), .val (.int (0 : Int32))] [(.ref bh), (.ref bp)])
  refine go (T' := T3) (f' := (mkF m 19 #[.val (.ref a0), .val (.int (0 : Int32))] [(.int (0 : Int32)), (.ref bh), (.ref bp)])) (by intro t k; exact XS.iloadN X3.here hx rfl (hb hby d5_18) rfl k) ?_
  refine go (T' := T3) (f' := (mkF m 20 #[.val (.ref a0), .val (.int (0 : Int32))] [(.int (0 : Int32)), (.ref bp)])) (by intro t k; exact ldI X3 hx hZ e3 Ah (j := (0 : Int32)) (v := (.int (0 : Int32))) (by decide) rfl (g := (mkF m 19 #[.val (.ref a0), .val (.int (0 : Int32))] [(.int (0 : Int32)), (.ref bh), (.ref bp)])) rfl rfl (hb hby d5_19) _ k) ?_
  refine go (T' := T3) (f' := (mkF m 21 #[.val (.ref a0), .val (.int (0 : Int32))] [(.int (-1 : Int32)), (.int (0 : Int32)), (.ref bp)])) (by intro t k; exact XS.iconst X3.here hx rfl (hb hby d5_20) k) ?_
  obtain ⟨cl4, Ar4, hin4⟩ := Ary.st (j := (0 : Int32)) Ap (by decide) (by show (0 : Int32).toNatClampNeg < 2; decide)
  obtain ⟨T4, h4, X4, e4, W4, st4⟩ := stI X3 hx hZ e3 Ar4 (j := (0 : Int32)) hin4 (g := (mkF m 21 #[.val (.ref a0), .val (.int (0 : Int32))] [(.int (-1 : Int32)), (.int (0 : Int32)), (.ref bp)])) rfl rfl (hb hby d5_21)
  have K4 : Keep h0 h4 [bp] := Keep.of_wr W4
  have V4 : Ary Z h4 bp .int [(.int (-1 : Int32)), (.int (1 : Int32))] := Ary.set Ap W4 rfl
  have N4 := Fr.snoc X4 N0 gp
  have E4_a0 := Exa.keep E K4
  have F4_a0_heap := Fld.keep Fh K4 (ninS n0p nin0)
  have F4_a0_priorities := Fld.keep Fd K4 (ninS n0p nin0)
  have F4_a0_places := Fld.keep Fp K4 (ninS n0p nin0)
  have F4_a0_size := Fld.keep Fs K4 (ninS n0p nin0)
  have F4_a0_taken := Fld.keep Ft K4 (ninS n0p nin0)
  have A4_bh := Ary.keep Ah K4 (ninS nhp nin0)
  have A4_bd := Ary.keep Ad K4 (ninS ndp nin0)
  have Z4 : n0 ≤ h4.size := Nat.le_trans Z0 K4.1
  have KK4 : Keep h0 h4 [a0, bh, bd, bp] := (Keep.refl _ _).trans K4 (allS (Or.inl (List.mem_of_getElem? (i := 3) rfl)) all0)
  refine go st4 ?_
  show Run _ _ _ _ _ _ _ T4 (mkF m 22 #[.val (.ref a0), .val (.int (0 : Int32))] [])
  refine go (T' := T4) (f' := (mkF m 25 #[.val (.ref a0), .val (.int (1 : Int32))] [])) (by intro t k; exact XS.iinc X4.here hx rfl (hb hby d5_22) rfl (l' := #[.val (.ref a0), .val (.int (1 : Int32))]) rfl k) ?_
  refine go (T' := T4) (f' := (mkF m 2 #[.val (.ref a0), .val (.int (1 : Int32))] [])) (by intro t k; exact XS.goto X4.here hx rfl (pc0 := 25) (pc' := 2) rfl (hb hby d5_25) (by decide) (by decide) k) ?_
  refine go (T' := T4) (f' := (mkF m 3 #[.val (.ref a0), .val (.int (1 : Int32))] [(.int (1 : Int32))])) (by intro t k; exact XS.iloadN X4.here hx rfl (hb hby d5_2) rfl k) ?_
  refine go (T' := T4) (f' := (mkF m 4 #[.val (.ref a0), .val (.int (1 : Int32))] [(.ref a0), (.int (1 : Int32))])) (by intro t k; exact XS.aloadN X4.here hx rfl (hb hby d5_3) rfl rfl k) ?_
  obtain ⟨T5, X5, e5, st5⟩ := getF X4 hx hZ hown (host := "") (Or.inl (tw hw 30 rfl)) Via.refl e4 F4_a0_size (g := (mkF m 4 #[.val (.ref a0), .val (.int (1 : Int32))] [(.ref a0), (.int (1 : Int32))])) rfl rfl (hb hby d5_4)
  refine go st5 ?_
  show Run _ _ _ _ _ _ _ T5 (mkF m 7 #[.val (.ref a0), .val (.int (1 : Int32))] [(.int (2 : Int32)), (.int (1 : Int32))])
  refine go (T' := T5) (f' := (mkF m 10 #[.val (.ref a0), .val (.int (1 : Int32))] [])) (by intro t k; exact XS.icmpNo X5.here hx rfl (hb hby d5_7) rfl (tlt (by decide : (1 : Int32) < (2 : Int32))).2.1 k) ?_
  refine go (T' := T5) (f' := (mkF m 11 #[.val (.ref a0), .val (.int (1 : Int32))] [(.ref a0)])) (by intro t k; exact XS.aloadN X5.here hx rfl (hb hby d5_10) rfl rfl k) ?_
  obtain ⟨T6, X6, e6, st6⟩ := getF X5 hx hZ hown (host := "") (Or.inl (tw hw 15 rfl)) Via.refl e5 F4_a0_places (g := (mkF m 11 #[.val (.ref a0), .val (.int (1 : Int32))] [(.ref a0)])) rfl rfl (hb hby d5_11)
  refine go st6 ?_
  show Run _ _ _ _ _ _ _ T6 (mkF m 14 #[.val (.ref a0), .val (.int (1 : Int32))] [(.ref bp)])
  refine go (T' := T6) (f' := (mkF m 15 #[.val (.ref a0), .val (.int (1 : Int32))] [(.ref a0), (.ref bp)])) (by intro t k; exact XS.aloadN X6.here hx rfl (hb hby d5_14) rfl rfl k) ?_
  obtain ⟨T7, X7, e7, st7⟩ := getF X6 hx hZ hown (host := "") (Or.inl (tw hw 10 rfl)) Via.refl e6 F4_a0_heap (g := (mkF m 15 #[.val (.ref a0), .val (.int (1 : Int32))] [(.ref a0), (.ref bp)])) rfl rfl (hb hby d5_15)
  refine go st7 ?_
  show Run _ _ _ _ _ _ _ T7 (mkF m 18 #[.val (.ref a0), .val (.int (1 : Int32))] [(.ref bh), (.ref bp)])
  refine go (T' := T7) (f' := (mkF m 19 #[.val (.ref a0), .val (.int (1 : Int32))] [(.int (1 : Int32)), (.ref bh), (.ref bp)])) (by intro t k; exact XS.iloadN X7.here hx rfl (hb hby d5_18) rfl k) ?_
  refine go (T' := T7) (f' := (mkF m 20 #[.val (.ref a0), .val (.int (1 : Int32))] [(.int (1 : Int32)), (.ref bp)])) (by intro t k; exact ldI X7 hx hZ e7 A4_bh (j := (1 : Int32)) (v := (.int (1 : Int32))) (by decide) rfl (g := (mkF m 19 #[.val (.ref a0), .val (.int (1 : Int32))] [(.int (1 : Int32)), (.ref bh), (.ref bp)])) rfl rfl (hb hby d5_19) _ k) ?_
  refine go (T' := T7) (f' := (mkF m 21 #[.val (.ref a0), .val (.int (1 : Int32))] [(.int (-1 : Int32)), (.int (1 : Int32)), (.ref bp)])) (by intro t k; exact XS.iconst X7.here hx rfl (hb hby d5_20) k) ?_
  obtain ⟨cl8, Ar8, hin8⟩ := Ary.st (j := (1 : Int32)) V4 (by decide) (by show (1 : Int32).toNatClampNeg < 2; decide)
  obtain ⟨T8, h8, X8, e8, W8, st8⟩ := stI X7 hx hZ e7 Ar8 (j := (1 : Int32)) hin8 (g := (mkF m 21 #[.val (.ref a0), .val (.int (1 : Int32))] [(.int (-1 : Int32)), (.int (1 : Int32)), (.ref bp)])) rfl rfl (hb hby d5_21)
  have K8 : Keep h4 h8 [bp] := Keep.of_wr W8
  have V8 : Ary Z h8 bp .int [(.int (-1 : Int32)), (.int (-1 : Int32))] := Ary.set V4 W8 rfl
  have N8 := Fr.snoc X8 N4 gp
  have E8_a0 := Exa.keep E4_a0 K8
  have F8_a0_heap := Fld.keep F4_a0_heap K8 (ninS n0p nin0)
  have F8_a0_priorities := Fld.keep F4_a0_priorities K8 (ninS n0p nin0)
  have F8_a0_places := Fld.keep F4_a0_places K8 (ninS n0p nin0)
  have F8_a0_size := Fld.keep F4_a0_size K8 (ninS n0p nin0)
  have F8_a0_taken := Fld.keep F4_a0_taken K8 (ninS n0p nin0)
  have A8_bh := Ary.keep A4_bh K8 (ninS nhp nin0)
  have A8_bd := Ary.keep A4_bd K8 (ninS ndp nin0)
  have Z8 : n0 ≤ h8.size := Nat.le_trans Z4 K8.1
  have KK8 : Keep h0 h8 [a0, bh, bd, bp] := KK4.trans K8 (allS (Or.inl (List.mem_of_getElem? (i := 3) rfl)) all0)
  refine go st8 ?_
  show Run _ _ _ _ _ _ _ T8 (mkF m 22 #[.val (.ref a0), .val (.int (1 : Int32))] [])
  refine go (T' := T8) (f' := (mkF m 25 #[.val (.ref a0), .val (.int (2 : Int32))] [])) (by intro t k; exact XS.iinc X8.here hx rfl (hb hby d5_22) rfl (l' := #[.val (.ref a0), .val (.int (2 : Int32))]) rfl k) ?_
  refine go (T' := T8) (f' := (mkF m 2 #[.val (.ref a0), .val (.int (2 : Int32))] [])) (by intro t k; exact XS.goto X8.here hx rfl (pc0 := 25) (pc' := 2) rfl (hb hby d5_25) (by decide) (by decide) k) ?_
  refine go (T' := T8) (f' := (mkF m 3 #[.val (.ref a0), .val (.int (2 : Int32))] [(.int (2 : Int32))])) (by intro t k; exact XS.iloadN X8.here hx rfl (hb hby d5_2) rfl k) ?_
  refine go (T' := T8) (f' := (mkF m 4 #[.val (.ref a0), .val (.int (2 : Int32))] [(.ref a0), (.int (2 : Int32))])) (by intro t k; exact XS.aloadN X8.here hx rfl (hb hby d5_3) rfl rfl k) ?_
  obtain ⟨T9, X9, e9, st9⟩ := getF X8 hx hZ hown (host := "") (Or.inl (tw hw 30 rfl)) Via.refl e8 F8_a0_size (g := (mkF m 4 #[.val (.ref a0), .val (.int (2 : Int32))] [(.ref a0), (.int (2 : Int32))])) rfl rfl (hb hby d5_4)
  refine go st9 ?_
  show Run _ _ _ _ _ _ _ T9 (mkF m 7 #[.val (.ref a0), .val (.int (2 : Int32))] [(.int (2 : Int32)), (.int (2 : Int32))])
  refine go (T' := T9) (f' := (mkF m 28 #[.val (.ref a0), .val (.int (2 : Int32))] [])) (by intro t k; exact XS.icmpYes X9.here hx rfl (pc0 := 7) (pc' := 28) rfl (hb hby d5_7) rfl (flt (by decide : ¬ ((2 : Int32) < (2 : Int32)))).2.1 (by decide) (by decide) k) ?_
  refine go (T' := T9) (f' := (mkF m 29 #[.val (.ref a0), .val (.int (2 : Int32))] [(.ref a0)])) (by intro t k; exact XS.aloadN X9.here hx rfl (hb hby d5_28) rfl rfl k) ?_
  obtain ⟨T10, X10, e10, st10⟩ := getF X9 hx hZ hown (host := "") (Or.inl (tw hw 10 rfl)) Via.refl e9 F8_a0_heap (g := (mkF m 29 #[.val (.ref a0), .val (.int (2 : Int32))] [(.ref a0)])) rfl rfl (hb hby d5_29)
  refine go st10 ?_
  show Run _ _ _ _ _ _ _ T10 (mkF m 32 #[.val (.ref a0), .val (.int (2 : Int32))] [(.ref bh)])
  refine go (T' := T10) (f' := (mkF m 33 #[.val (.ref a0), .val (.int (2 : Int32))] [(.int (2 : Int32))])) (by intro t k; exact alen X10 hx hZ e10 A8_bh (z := (2 : Int32)) rfl (g := (mkF m 32 #[.val (.ref a0), .val (.int (2 : Int32))] [(.ref bh)])) rfl rfl (hb hby d5_32) _ k) ?_
  refine go (T' := T10) (f' := (mkF m 34 #[.val (.ref a0), .val (.int (2 : Int32))] [(.ref a0), (.int (2 : Int32))])) (by intro t k; exact XS.aloadN X10.here hx rfl (hb hby d5_33) rfl rfl k) ?_
  obtain ⟨T11, X11, e11, st11⟩ := getF X10 hx hZ hown (host := "") (Or.inl (tw hw 32 rfl)) Via.refl e10 F8_a0_taken (g := (mkF m 34 #[.val (.ref a0), .val (.int (2 : Int32))] [(.ref a0), (.int (2 : Int32))])) rfl rfl (hb hby d5_34)
  refine go st11 ?_
  show Run _ _ _ _ _ _ _ T11 (mkF m 37 #[.val (.ref a0), .val (.int (2 : Int32))] [(.int (0 : Int32)), (.int (2 : Int32))])
  refine go (T' := T11) (f' := (mkF m 38 #[.val (.ref a0), .val (.int (2 : Int32))] [(.int (2 : Int32))])) (by intro t k; exact XS.isub X11.here hx rfl (hb hby d5_37) rfl k) ?_
  refine go (T' := T11) (f' := (mkF m 39 #[.val (.ref a0), .val (.int (2 : Int32))] [])) (by intro t k; exact XS.istoreN X11.here hx rfl (hb hby d5_38) rfl (l' := #[.val (.ref a0), .val (.int (2 : Int32))]) rfl k) ?_
  refine go (T' := T11) (f' := (mkF m 40 #[.val (.ref a0), .val (.int (2 : Int32))] [(.int (2 : Int32))])) (by intro t k; exact XS.iloadN X11.here hx rfl (hb hby d5_39) rfl k) ?_
  refine go (T' := T11) (f' := (mkF m 41 #[.val (.ref a0), .val (.int (2 : Int32))] [(.ref a0), (.int (2 : Int32))])) (by intro t k; exact XS.aloadN X11.here hx rfl (hb hby d5_40) rfl rfl k) ?_
  obtain ⟨T12, X12, e12, st12⟩ := getF X11 hx hZ hown (host := "") (Or.inl (tw hw 10 rfl)) Via.refl e11 F8_a0_heap (g := (mkF m 41 #[.val (.ref a0), .val (.int (2 : Int32))] [(.ref a0), (.int (2 : Int32))])) rfl rfl (hb hby d5_41)
  refine go st12 ?_
  show Run _ _ _ _ _ _ _ T12 (mkF m 44 #[.val (.ref a0), .val (.int (2 : Int32))] [(.ref bh), (.int (2 : Int32))])
  refine go (T' := T12) (f' := (mkF m 45 #[.val (.ref a0), .val (.int (2 : Int32))] [(.int (2 : Int32)), (.int (2 : Int32))])) (by intro t k; exact alen X12 hx hZ e12 A8_bh (z := (2 : Int32)) rfl (g := (mkF m 44 #[.val (.ref a0), .val (.int (2 : Int32))] [(.ref bh), (.int (2 : Int32))])) rfl rfl (hb hby d5_44) _ k) ?_
  refine go (T' := T12) (f' := (mkF m 66 #[.val (.ref a0), .val (.int (2 : Int32))] [])) (by intro t k; exact XS.icmpYes X12.here hx rfl (pc0 := 45) (pc' := 66) rfl (hb hby d5_45) rfl (flt (by decide : ¬ ((2 : Int32) < (2 : Int32)))).2.1 (by decide) (by decide) k) ?_
  refine go (T' := T12) (f' := (mkF m 67 #[.val (.ref a0), .val (.int (2 : Int32))] [(.ref a0)])) (by intro t k; exact XS.aloadN X12.here hx rfl (hb hby d5_66) rfl rfl k) ?_
  refine go (T' := T12) (f' := (mkF m 68 #[.val (.ref a0), .val (.int (2 : Int32))] [(.int (0 : Int32)), (.ref a0)])) (by intro t k; exact XS.iconst X12.here hx rfl (hb hby d5_67) k) ?_
  obtain ⟨T13, h13, X13, e13, W13, st13⟩ := putF X12 hx hZ hown (host := "") (Or.inl (tw hw 30 rfl)) Via.refl e12 F8_a0_size E8_a0 (Or.inl (tw hw 31 rfl)) (tw hw 1 rfl) (ty := .int) (by decide) rfl rfl (g := (mkF m 68 #[.val (.ref a0), .val (.int (2 : Int32))] [(.int (0 : Int32)), (.ref a0)])) rfl rfl (hb hby d5_68)
  have K13 : Keep h8 h13 [a0] := Keep.of_wr W13
  have F13_a0_heap := Fld.other W13 F8_a0_heap (Or.inr (slot_ne (Or.inr (tw hw 11 rfl)) (Or.inl (tw hw 31 rfl)) (by decide) (t := (.array .int)) (t' := .int) (by decide) (by decide)))
  have F13_a0_priorities := Fld.other W13 F8_a0_priorities (Or.inr (slot_ne (Or.inr (tw hw 14 rfl)) (Or.inl (tw hw 31 rfl)) (by decide) (t := (.array .double)) (t' := .int) (by decide) (by decide)))
  have F13_a0_places := Fld.other W13 F8_a0_places (Or.inr (slot_ne (Or.inr (tw hw 16 rfl)) (Or.inl (tw hw 31 rfl)) (by decide) (t := (.array .int)) (t' := .int) (by decide) (by decide)))
  have F13_a0_size : Fld Z h13 a0 "com/example/wayshard/wayshard/service/VertexQueue" "size" "I" (.int (0 : Int32)) := F8_a0_size.same W13
  have F13_a0_taken := Fld.other W13 F8_a0_taken (Or.inr (slot_ne (Or.inl (tw hw 33 rfl)) (Or.inl (tw hw 31 rfl)) (by decide) (t := .int) (t' := .int) (by decide) (by decide)))
  have N13 := Fr.snoc X13 N8 g0
  have E13_a0 := Exa.keep E8_a0 K13
  have A13_bh := Ary.keep A8_bh K13 (ninS (Ne.symm n0h) nin0)
  have A13_bd := Ary.keep A8_bd K13 (ninS (Ne.symm n0d) nin0)
  have A13_bp := Ary.keep V8 K13 (ninS (Ne.symm n0p) nin0)
  have Z13 : n0 ≤ h13.size := Nat.le_trans Z8 K13.1
  have KK13 : Keep h0 h13 [a0, bh, bd, bp] := KK8.trans K13 (allS (Or.inl (List.mem_of_getElem? (i := 0) rfl)) all0)
  refine go st13 ?_
  show Run _ _ _ _ _ _ _ T13 (mkF m 71 #[.val (.ref a0), .val (.int (2 : Int32))] [])
  refine go (T' := T13) (f' := (mkF m 72 #[.val (.ref a0), .val (.int (2 : Int32))] [(.ref a0)])) (by intro t k; exact XS.aloadN X13.here hx rfl (hb hby d5_71) rfl rfl k) ?_
  refine go (T' := T13) (f' := (mkF m 73 #[.val (.ref a0), .val (.int (2 : Int32))] [(.int (0 : Int32)), (.ref a0)])) (by intro t k; exact XS.iconst X13.here hx rfl (hb hby d5_72) k) ?_
  obtain ⟨T14, h14, X14, e14, W14, st14⟩ := putF X13 hx hZ hown (host := "") (Or.inl (tw hw 32 rfl)) Via.refl e13 F13_a0_taken E13_a0 (Or.inl (tw hw 33 rfl)) (tw hw 1 rfl) (ty := .int) (by decide) rfl rfl (g := (mkF m 73 #[.val (.ref a0), .val (.int (2 : Int32))] [(.int (0 : Int32)), (.ref a0)])) rfl rfl (hb hby d5_73)
  have K14 : Keep h13 h14 [a0] := Keep.of_wr W14
  have F14_a0_heap := Fld.other W14 F13_a0_heap (Or.inr (slot_ne (Or.inr (tw hw 11 rfl)) (Or.inl (tw hw 33 rfl)) (by decide) (t := (.array .int)) (t' := .int) (by decide) (by decide)))
  have F14_a0_priorities := Fld.other W14 F13_a0_priorities (Or.inr (slot_ne (Or.inr (tw hw 14 rfl)) (Or.inl (tw hw 33 rfl)) (by decide) (t := (.array .double)) (t' := .int) (by decide) (by decide)))
  have F14_a0_places := Fld.other W14 F13_a0_places (Or.inr (slot_ne (Or.inr (tw hw 16 rfl)) (Or.inl (tw hw 33 rfl)) (by decide) (t := (.array .int)) (t' := .int) (by decide) (by decide)))
  have F14_a0_size := Fld.other W14 F13_a0_size (Or.inr (slot_ne (Or.inl (tw hw 31 rfl)) (Or.inl (tw hw 33 rfl)) (by decide) (t := .int) (t' := .int) (by decide) (by decide)))
  have F14_a0_taken : Fld Z h14 a0 "com/example/wayshard/wayshard/service/VertexQueue" "taken" "I" (.int (0 : Int32)) := F13_a0_taken.same W14
  have N14 := Fr.snoc X14 N13 g0
  have E14_a0 := Exa.keep E13_a0 K14
  have A14_bh := Ary.keep A13_bh K14 (ninS (Ne.symm n0h) nin0)
  have A14_bd := Ary.keep A13_bd K14 (ninS (Ne.symm n0d) nin0)
  have A14_bp := Ary.keep A13_bp K14 (ninS (Ne.symm n0p) nin0)
  have Z14 : n0 ≤ h14.size := Nat.le_trans Z13 K14.1
  have KK14 : Keep h0 h14 [a0, bh, bd, bp] := KK13.trans K14 (allS (Or.inl (List.mem_of_getElem? (i := 0) rfl)) all0)
  refine go st14 ?_
  show Run _ _ _ _ _ _ _ T14 (mkF m 76 #[.val (.ref a0), .val (.int (2 : Int32))] [])
  refine retV X14 hx Bd.returns (hb hby d5_76) hlk (by decide) (by decide) ?_
  show Q5t40 Z a0 bh bd bp x0 x1 h0 n0 _ T14.heap _
  rw [e14]
  exact ⟨rfl, N14, KK14, ⟨E14_a0, F14_a0_heap, F14_a0_priorities, F14_a0_places, F14_a0_size, F14_a0_taken, A14_bh, A14_bd, A14_bp, g0, gh, gd, gp, n0h, n0d, n0p, nhd, nhp, ndp⟩⟩
theorem ef_10t43 (m : MethodId) (x0 : Addr) : entryFrame m #[(.ref x0), (.int (1 : Int32)), (.int (0 : Int32))] 3 = mkF m 0 #[.val (.ref x0), .val (.int (1 : Int32)), .val (.int (0 : Int32))] [] := by first | (simp [entryFrame, mkF, argsToLocals, Value.category]; done) | rfl
def Q10t43 (Z : State) (a0 : Addr) (bh bd bp : Addr) (x0 x1 : UInt64) (h0 : Heap) (n0 : Nat) (v : Option Value) (h : Heap) (L : List Loc) : Prop := v = none ∧ Fr n0 L ∧ Keep h0 h [a0, bh, bd, bp] ∧ own_st Z n0 h a0 bh bd bp (1 : Int32) (1 : Int32) (0 : Int32) (0 : Int32) (1 : Int32) (0 : Int32) x0 x1
set_option maxRecDepth 65536 in
set_option maxHeartbeats 40000000 in
theorem rm10t43 (l : Launch) (Z : State) (aw : Array Value) (hw : ∀ d ∈ tables_1, d.before aw Z = true) (ws : List Jvm.Cond) (a0 : Addr) (bh bd bp : Addr) (x0 x1 : UInt64) (h0 : Heap) (n0 : Nat) (Z0 : n0 ≤ h0.size) (St : own_st Z n0 h0 a0 bh bd bp (1 : Int32) (1 : Int32) (0 : Int32) (0 : Int32) (1 : Int32) (0 : Int32) x0 x1) :
    MetFree l mmove (head1 (Jvm.Cond.code mmove prog_64_method_9_code 3 none :: ws) rO0) (fun a U => a = #[(.ref a0), (.int (1 : Int32)), (.int (0 : Int32))] ∧ Z.Warmed39 U.vm ∧ U.heap = h0) (fun _ _ _ _ _ => True) (fun _ U o U' => ∃ v L, o = .returned v ∧ Q10t43 Z a0 bh bd bp x0 x1 h0 n0 v U'.heap L ∧ FrameEnd U o U' L rO0.cells rO0.slots) := by
  refine MetFree.of_bodySF (plainFor_of_name pn_1) hisR ?_
  intro p e s m args below meth c s₁ Bd hml0 hP hK
  obtain ⟨rfl, hZ, hh⟩ := hP
  have hx := Bd.exec
  have hby := Bd.bytes
  have hml : c.maxLocals = 3 := hml0
  have hown : s.vm.findClass "com/example/wayshard/wayshard/service/VertexQueue" = some m.cls := findClass_of_methodNamed Bd.named
  have hnm := (name_of_methodNamed Bd.named Bd.method).1
  have hlk : meth.locks = false := BodyLoose.notSynchronized Bd
  have X0 : Stand p l e rO0 s m #[(.ref a0), (.int (1 : Int32)), (.int (0 : Int32))] below meth c s₁ [] 0 0 := Stand.of_body Bd
  have e0 : s₁.heap = h0 := by rw [← hh, Bd.state]; rfl
  have N0 := Fr.nil n0
  show Run p e s below (Q10t43 Z a0 bh bd bp x0 x1 h0 n0) rO0.cells rO0.slots s₁ (entryFrame m #[(.ref a0), (.int (1 : Int32)), (.int (0 : Int32))] 3)
  rw [ef_10t43]
  obtain ⟨E, Fh, Fd, Fp, Fs, Ft, Ah, Ad, Ap, g0, gh, gd, gp, n0h, n0d, n0p, nhd, nhp, ndp⟩ := St
  show Run _ _ _ _ _ _ _ s₁ (mkF m 0 #[.val (.ref a0), .val (.int (1 : Int32)), .val (.int (0 : Int32))] [])
  refine go (T' := s₁) (f' := (mkF m 1 #[.val (.ref a0), .val (.int (1 : Int32)), .val (.int (0 : Int32))] [(.ref a0)])) (by intro t k; exact XS.aloadN X0.here hx rfl (hb hby d10_0) rfl rfl k) ?_
  obtain ⟨T1, X1, e1, st1⟩ := getF X0 hx hZ hown (host := "") (Or.inl (tw hw 10 rfl)) Via.refl e0 Fh (g := (mkF m 1 #[.val (.ref a0), .val (.int (1 : Int32)), .val (.int (0 : Int32))] [(.ref a0)])) rfl rfl (hb hby d10_1)
  refine go st1 ?_
  show Run _ _ _ _ _ _ _ T1 (mkF m 4 #[.val (.ref a0), .val (.int (1 : Int32)), .val (.int (0 : Int32))] [(.ref bh)])
  refine go (T' := T1) (f' := (mkF m 5 #[.val (.ref a0), .val (.int (1 : Int32)), .val (.int (0 : Int32))] [(.int (0 : Int32)), (.ref bh)])) (by intro t k; exact XS.iloadN X1.here hx rfl (hb hby d10_4) rfl k) ?_
  refine go (T' := T1) (f' := (mkF m 6 #[.val (.ref a0), .val (.int (1 : Int32)), .val (.int (0 : Int32))] [(.int (1 : Int32)), (.int (0 : Int32)), (.ref bh)])) (by intro t k; exact XS.iloadN X1.here hx rfl (hb hby d10_5) rfl k) ?_
  obtain ⟨cl2, Ar2, hin2⟩ := Ary.st (j := (0 : Int32)) Ah (by decide) (by show (0 : Int32).toNatClampNeg < 2; decide)
  obtain ⟨T2, h2, X2, e2, W2, st2⟩ := stI X1 hx hZ e1 Ar2 (j := (0 : Int32)) hin2 (g := (mkF m 6 #[.val (.ref a0), .val (.int (1 : Int32)), .val (.int (0 : Int32))] [(.int (1 : Int32)), (.int (0 : Int32)), (.ref bh)])) rfl rfl (hb hby d10_6)
  have K2 : Keep h0 h2 [bh] := Keep.of_wr W2
  have V2 : Ary Z h2 bh .int [(.int (1 : Int32)), (.int (1 : Int32))] := Ary.set Ah W2 rfl
  have N2 := Fr.snoc X2 N0 gh
  have E2_a0 := Exa.keep E K2
  have F2_a0_heap := Fld.keep Fh K2 (ninS n0h nin0)
  have F2_a0_priorities := Fld.keep Fd K2 (ninS n0h nin0)
  have F2_a0_places := Fld.keep Fp K2 (ninS n0h nin0)
  have F2_a0_size := Fld.keep Fs K2 (ninS n0h nin0)
  have F2_a0_taken := Fld.keep Ft K2 (ninS n0h nin0)
  have A2_bd := Ary.keep Ad K2 (ninS (Ne.symm nhd) nin0)
  have A2_bp := Ary.keep Ap K2 (ninS (Ne.symm nhp) nin0)
  have Z2 : n0 ≤ h2.size := Nat.le_trans Z0 K2.1
  have KK2 : Keep h0 h2 [a0, bh, bd, bp] := (Keep.refl _ _).trans K2 (allS (Or.inl (List.mem_of_getElem? (i := 1) rfl)) all0)
  refine go st2 ?_
  show Run _ _ _ _ _ _ _ T2 (mkF m 7 #[.val (.ref a0), .val (.int (1 : Int32)), .val (.int (0 : Int32))] [])
  refine go (T' := T2) (f' := (mkF m 8 #[.val (.ref a0), .val (.int (1 : Int32)), .val (.int (0 : Int32))] [(.ref a0)])) (by intro t k; exact XS.aloadN X2.here hx rfl (hb hby d10_7) rfl rfl k) ?_
  obtain ⟨T3, X3, e3, st3⟩ := getF X2 hx hZ hown (host := "") (Or.inl (tw hw 15 rfl)) Via.refl e2 F2_a0_places (g := (mkF m 8 #[.val (.ref a0), .val (.int (1 : Int32)), .val (.int (0 : Int32))] [(.ref a0)])) rfl rfl (hb hby d10_8)
  refine go st3 ?_
  show Run _ _ _ _ _ _ _ T3 (mkF m 11 #[.val (.ref a0), .val (.int (1 : Int32)), .val (.int (0 : Int32))] [(.ref bp)])
  refine go (T' := T3) (f' := (mkF m 12 #[.val (.ref a0), .val (.int (1 : Int32)), .val (.int (0 : Int32))] [(.int (1 : Int32)), (.ref bp)])) (by intro t k; exact XS.iloadN X3.here hx rfl (hb hby d10_11) rfl k) ?_
  refine go (T' := T3) (f' := (mkF m 13 #[.val (.ref a0), .val (.int (1 : Int32)), .val (.int (0 : Int32))] [(.int (0 : Int32)), (.int (1 : Int32)), (.ref bp)])) (by intro t k; exact XS.iloadN X3.here hx rfl (hb hby d10_12) rfl k) ?_
  obtain ⟨cl4, Ar4, hin4⟩ := Ary.st (j := (1 : Int32)) A2_bp (by decide) (by show (1 : Int32).toNatClampNeg < 2; decide)
  obtain ⟨T4, h4, X4, e4, W4, st4⟩ := stI X3 hx hZ e3 Ar4 (j := (1 : Int32)) hin4 (g := (mkF m 13 #[.val (.ref a0), .val (.int (1 : Int32)), .val (.int (0 : Int32))] [(.int (0 : Int32)), (.int (1 : Int32)), (.ref bp)])) rfl rfl (hb hby d10_13)
  have K4 : Keep h2 h4 [bp] := Keep.of_wr W4
  have V4 : Ary Z h4 bp .int [(.int (0 : Int32)), (.int (0 : Int32))] := Ary.set A2_bp W4 rfl
  have N4 := Fr.snoc X4 N2 gp
  have E4_a0 := Exa.keep E2_a0 K4
  have F4_a0_heap := Fld.keep F2_a0_heap K4 (ninS n0p nin0)
  have F4_a0_priorities := Fld.keep F2_a0_priorities K4 (ninS n0p nin0)
  have F4_a0_places := Fld.keep F2_a0_places K4 (ninS n0p nin0)
  have F4_a0_size := Fld.keep F2_a0_size K4 (ninS n0p nin0)
  have F4_a0_taken := Fld.keep F2_a0_taken K4 (ninS n0p nin0)
  have A4_bh := Ary.keep V2 K4 (ninS nhp nin0)
  have A4_bd := Ary.keep A2_bd K4 (ninS ndp nin0)
  have Z4 : n0 ≤ h4.size := Nat.le_trans Z2 K4.1
  have KK4 : Keep h0 h4 [a0, bh, bd, bp] := KK2.trans K4 (allS (Or.inl (List.mem_of_getElem? (i := 3) rfl)) all0)
  refine go st4 ?_
  show Run _ _ _ _ _ _ _ T4 (mkF m 14 #[.val (.ref a0), .val (.int (1 : Int32)), .val (.int (0 : Int32))] [])
  refine retV X4 hx Bd.returns (hb hby d10_14) hlk (by decide) (by decide) ?_
  show Q10t43 Z a0 bh bd bp x0 x1 h0 n0 _ T4.heap _
  rw [e4]
  exact ⟨rfl, N4, KK4, ⟨E4_a0, F4_a0_heap, F4_a0_priorities, F4_a0_places, F4_a0_size, F4_a0_taken, A4_bh, A4_bd, V4, g0, gh, gd, gp, n0h, n0d, n0p, nhd, nhp, ndp⟩⟩
theorem ef_12t42 (m : MethodId) (x0 : Addr) : entryFrame m #[(.ref x0), (.int (0 : Int32))] 5 = mkF m 0 #[.val (.ref x0), .val (.int (0 : Int32)), .unset, .unset, .unset] [] := by first | (simp [entryFrame, mkF, argsToLocals, Value.category]; done) | rfl
def Q12t42 (Z : State) (a0 : Addr) (bh bd bp : Addr) (x0 x1 : UInt64) (h0 : Heap) (n0 : Nat) (v : Option Value) (h : Heap) (L : List Loc) : Prop := v = none ∧ Fr n0 L ∧ Keep h0 h [a0, bh, bd, bp] ∧ own_st Z n0 h a0 bh bd bp (1 : Int32) (1 : Int32) (0 : Int32) (0 : Int32) (1 : Int32) (0 : Int32) x0 x1
set_option maxRecDepth 65536 in
set_option maxHeartbeats 40000000 in
theorem rm12t42 (l : Launch) (Z : State) (aw : Array Value) (hw : ∀ d ∈ tables_1, d.before aw Z = true) (ws : List Jvm.Cond) (a0 : Addr) (bh bd bp : Addr) (x0 x1 : UInt64) (h0 : Heap) (n0 : Nat) (Z0 : n0 ≤ h0.size) (St : own_st Z n0 h0 a0 bh bd bp (1 : Int32) (1 : Int32) (0 : Int32) (0 : Int32) (1 : Int32) (0 : Int32) x0 x1) :
    MetFree l msiftDown (head1 (Jvm.Cond.code msiftDown prog_64_method_8_code 5 none :: ws) rO1) (fun a U => a = #[(.ref a0), (.int (0 : Int32))] ∧ Z.Warmed39 U.vm ∧ U.heap = h0) (fun _ _ _ _ _ => True) (fun _ U o U' => ∃ v L, o = .returned v ∧ Q12t42 Z a0 bh bd bp x0 x1 h0 n0 v U'.heap L ∧ FrameEnd U o U' L rO1.cells rO1.slots) := by
  refine MetFree.of_bodySF (plainFor_of_name pn_1) hisR ?_
  intro p e s m args below meth c s₁ Bd hml0 hP hK
  obtain ⟨rfl, hZ, hh⟩ := hP
  have hx := Bd.exec
  have hby := Bd.bytes
  have hml : c.maxLocals = 5 := hml0
  have hown : s.vm.findClass "com/example/wayshard/wayshard/service/VertexQueue" = some m.cls := findClass_of_methodNamed Bd.named
  have hnm := (name_of_methodNamed Bd.named Bd.method).1
  have hlk : meth.locks = false := BodyLoose.notSynchronized Bd
  have X0 : Stand p l e rO1 s m #[(.ref a0), (.int (0 : Int32))] below meth c s₁ [] 0 0 := Stand.of_body Bd
  have e0 : s₁.heap = h0 := by rw [← hh, Bd.state]; rfl
  have N0 := Fr.nil n0
  show Run p e s below (Q12t42 Z a0 bh bd bp x0 x1 h0 n0) rO1.cells rO1.slots s₁ (entryFrame m #[(.ref a0), (.int (0 : Int32))] 5)
  rw [ef_12t42]
  obtain ⟨E, Fh, Fd, Fp, Fs, Ft, Ah, Ad, Ap, g0, gh, gd, gp, n0h, n0d, n0p, nhd, nhp, ndp⟩ := St
  show Run _ _ _ _ _ _ _ s₁ (mkF m 0 #[.val (.ref a0), .val (.int (0 : Int32)), .unset, .unset, .unset] [])
  refine go (T' := s₁) (f' := (mkF m 1 #[.val (.ref a0), .val (.int (0 : Int32)), .unset, .unset, .unset] [(.ref a0)])) (by intro t k; exact XS.aloadN X0.here hx rfl (hb hby d12_0) rfl rfl k) ?_
  obtain ⟨T1, X1, e1, st1⟩ := getF X0 hx hZ hown (host := "") (Or.inl (tw hw 10 rfl)) Via.refl e0 Fh (g := (mkF m 1 #[.val (.ref a0), .val (.int (0 : Int32)), .unset, .unset, .unset] [(.ref a0)])) rfl rfl (hb hby d12_1)
  refine go st1 ?_
  show Run _ _ _ _ _ _ _ T1 (mkF m 4 #[.val (.ref a0), .val (.int (0 : Int32)), .unset, .unset, .unset] [(.ref bh)])
  refine go (T' := T1) (f' := (mkF m 5 #[.val (.ref a0), .val (.int (0 : Int32)), .unset, .unset, .unset] [(.int (0 : Int32)), (.ref bh)])) (by intro t k; exact XS.iloadN X1.here hx rfl (hb hby d12_4) rfl k) ?_
  refine go (T' := T1) (f' := (mkF m 6 #[.val (.ref a0), .val (.int (0 : Int32)), .unset, .unset, .unset] [(.int (1 : Int32))])) (by intro t k; exact ldI X1 hx hZ e1 Ah (j := (0 : Int32)) (v := (.int (1 : Int32))) (by decide) rfl (g := (mkF m 5 #[.val (.ref a0), .val (.int (0 : Int32)), .unset, .unset, .unset] [(.int (0 : Int32)), (.ref bh)])) rfl rfl (hb hby d12_5) _ k) ?_
  refine go (T' := T1) (f' := (mkF m 7 #[.val (.ref a0), .val (.int (0 : Int32)), .val (.int (1 : Int32)), .unset, .unset] [])) (by intro t k; exact XS.istoreN X1.here hx rfl (hb hby d12_6) rfl (l' := #[.val (.ref a0), .val (.int (0 : Int32)), .val (.int (1 : Int32)), .unset, .unset]) rfl k) ?_
  refine go (T' := T1) (f' := (mkF m 8 #[.val (.ref a0), .val (.int (0 : Int32)), .val (.int (1 : Int32)), .unset, .unset] [(.int (0 : Int32))])) (by intro t k; exact XS.iloadN X1.here hx rfl (hb hby d12_7) rfl k) ?_
  refine go (T' := T1) (f' := (mkF m 9 #[.val (.ref a0), .val (.int (0 : Int32)), .val (.int (1 : Int32)), .val (.int (0 : Int32)), .unset] [])) (by intro t k; exact XS.istoreN X1.here hx rfl (hb hby d12_8) rfl (l' := #[.val (.ref a0), .val (.int (0 : Int32)), .val (.int (1 : Int32)), .val (.int (0 : Int32)), .unset]) rfl k) ?_
  refine go (T' := T1) (f' := (mkF m 10 #[.val (.ref a0), .val (.int (0 : Int32)), .val (.int (1 : Int32)), .val (.int (0 : Int32)), .unset] [(.int (2 : Int32))])) (by intro t k; exact XS.iconst X1.here hx rfl (hb hby d12_9) k) ?_
  refine go (T' := T1) (f' := (mkF m 11 #[.val (.ref a0), .val (.int (0 : Int32)), .val (.int (1 : Int32)), .val (.int (0 : Int32)), .unset] [(.int (0 : Int32)), (.int (2 : Int32))])) (by intro t k; exact XS.iloadN X1.here hx rfl (hb hby d12_10) rfl k) ?_
  refine go (T' := T1) (f' := (mkF m 12 #[.val (.ref a0), .val (.int (0 : Int32)), .val (.int (1 : Int32)), .val (.int (0 : Int32)), .unset] [(.int (0 : Int32))])) (by intro t k; exact XS.imul X1.here hx rfl (hb hby d12_11) rfl k) ?_
  refine go (T' := T1) (f' := (mkF m 13 #[.val (.ref a0), .val (.int (0 : Int32)), .val (.int (1 : Int32)), .val (.int (0 : Int32)), .unset] [(.int (1 : Int32)), (.int (0 : Int32))])) (by intro t k; exact XS.iconst X1.here hx rfl (hb hby d12_12) k) ?_
  refine go (T' := T1) (f' := (mkF m 14 #[.val (.ref a0), .val (.int (0 : Int32)), .val (.int (1 : Int32)), .val (.int (0 : Int32)), .unset] [(.int (1 : Int32))])) (by intro t k; exact XS.iadd X1.here hx rfl (hb hby d12_13) rfl k) ?_
  refine go (T' := T1) (f' := (mkF m 15 #[.val (.ref a0), .val (.int (0 : Int32)), .val (.int (1 : Int32)), .val (.int (0 : Int32)), .unset] [(.ref a0), (.int (1 : Int32))])) (by intro t k; exact XS.aloadN X1.here hx rfl (hb hby d12_14) rfl rfl k) ?_
  obtain ⟨T2, X2, e2, st2⟩ := getF X1 hx hZ hown (host := "") (Or.inl (tw hw 30 rfl)) Via.refl e1 Fs (g := (mkF m 15 #[.val (.ref a0), .val (.int (0 : Int32)), .val (.int (1 : Int32)), .val (.int (0 : Int32)), .unset] [(.ref a0), (.int (1 : Int32))])) rfl rfl (hb hby d12_15)
  refine go st2 ?_
  show Run _ _ _ _ _ _ _ T2 (mkF m 18 #[.val (.ref a0), .val (.int (0 : Int32)), .val (.int (1 : Int32)), .val (.int (0 : Int32)), .unset] [(.int (1 : Int32)), (.int (1 : Int32))])
  refine go (T' := T2) (f' := (mkF m 115 #[.val (.ref a0), .val (.int (0 : Int32)), .val (.int (1 : Int32)), .val (.int (0 : Int32)), .unset] [])) (by intro t k; exact XS.icmpYes X2.here hx rfl (pc0 := 18) (pc' := 115) rfl (hb hby d12_18) rfl (flt (by decide : ¬ ((1 : Int32) < (1 : Int32)))).2.1 (by decide) (by decide) k) ?_
  refine go (T' := T2) (f' := (mkF m 116 #[.val (.ref a0), .val (.int (0 : Int32)), .val (.int (1 : Int32)), .val (.int (0 : Int32)), .unset] [(.ref a0)])) (by intro t k; exact XS.aloadN X2.here hx rfl (hb hby d12_115) rfl rfl k) ?_
  refine go (T' := T2) (f' := (mkF m 117 #[.val (.ref a0), .val (.int (0 : Int32)), .val (.int (1 : Int32)), .val (.int (0 : Int32)), .unset] [(.int (1 : Int32)), (.ref a0)])) (by intro t k; exact XS.iloadN X2.here hx rfl (hb hby d12_116) rfl k) ?_
  refine go (T' := T2) (f' := (mkF m 118 #[.val (.ref a0), .val (.int (0 : Int32)), .val (.int (1 : Int32)), .val (.int (0 : Int32)), .unset] [(.int (0 : Int32)), (.int (1 : Int32)), (.ref a0)])) (by intro t k; exact XS.iloadN X2.here hx rfl (hb hby d12_117) rfl k) ?_
  obtain ⟨cq3, q3, q3'⟩ := (E).cell
  obtain ⟨_, _, ⟨T3, Lz3, kz3, nz3⟩, -, X3, ⟨Lc3, hQ3, lz3, yz3, zz3⟩, st3⟩ := X2.privateBack hx (y := mmove) hown (mvT hZ (tw hw 53 rfl)) (mvT hZ (tw hw 54 rfl)) (selP (y := mmove) (mvT hZ (tw hw 1 rfl)) (Cond.privateMethod_at (mvP hZ (tw hw 55 rfl) (args := #[]))) (mvT hZ (tw hw 54 rfl)) (by decide)) (Cond.privateMethod_at (mvP hZ (tw hw 55 rfl) (args := #[]))) (mvT hZ (tw hw 56 rfl)) (by decide) (backOf (W := 0) (rm10t43 l Z aw hw [] a0 bh bd bp x0 x1  h0 n0 Z0 ⟨E, Fh, Fd, Fp, Fs, Ft, Ah, Ad, Ap, g0, gh, gd, gp, n0h, n0d, n0p, nhd, nhp, ndp⟩) hZ (tw hw 56 rfl) (tw hw 2 rfl) (by decide) (by decide)) (g := (mkF m 118 #[.val (.ref a0), .val (.int (0 : Int32)), .val (.int (1 : Int32)), .val (.int (0 : Int32)), .unset] [(.int (0 : Int32)), (.int (1 : Int32)), (.ref a0)])) rfl (by rw [hml]; rfl) (Steps.refl _) (a := a0) (by rw [e2]; exact q3) q3' (argsL := [(.int (1 : Int32)), (.int (0 : Int32))]) (rest := []) (lenOf pd_28II29V rfl) rfl (by show 2 * 0 + _ ≤ _; exact Nat.le_of_eq rfl) (hb hby d12_118) (fun _ _ => ⟨rfl, e2, (by decide : 0 + 0 ≤ _), (by decide : 0 + 0 ≤ _)⟩)
  dsimp only [Pt.U, Pt.locs, Pt.cells, Pt.slots] at X3 lz3 yz3 zz3 st3 hQ3
  subst lz3 yz3 zz3
  obtain ⟨rfl, N3q, K3, hD3⟩ := hQ3
  have E3_a0 := Exa.keep E K3
  have Z3 : n0 ≤ T3.heap.size := Nat.le_trans Z0 K3.1
  have KK3 : Keep h0 T3.heap [a0, bh, bd, bp] := (Keep.refl _ _).trans K3 (allS (Or.inl (List.mem_of_getElem? (i := 0) rfl)) (allS (Or.inl (List.mem_of_getElem? (i := 1) rfl)) (allS (Or.inl (List.mem_of_getElem? (i := 2) rfl)) (allS (Or.inl (List.mem_of_getElem? (i := 3) rfl)) all0))))
  obtain ⟨E3, Fh3, Fd3, Fp3, Fs3, Ft3, Ah3, Ad3, Ap3, g03, gh3, gd3, gp3, n0h3, n0d3, n0p3, nhd3, nhp3, ndp3⟩ := hD3
  have N3 := Fr.app N0 N3q
  refine go (fun _ k => st3.trans k) ?_
  show Run _ _ _ _ _ _ _ T3 (mkF m 121 #[.val (.ref a0), .val (.int (0 : Int32)), .val (.int (1 : Int32)), .val (.int (0 : Int32)), .unset] [])
  refine retV X3 hx Bd.returns (hb hby d12_121) hlk (by decide) (by decide) ?_
  show Q12t42 Z a0 bh bd bp x0 x1 h0 n0 _ T3.heap _
  exact ⟨rfl, N3, KK3, ⟨E3, Fh3, Fd3, Fp3, Fs3, Ft3, Ah3, Ad3, Ap3, g03, gh3, gd3, gp3, n0h3, n0d3, n0p3, nhd3, nhp3, ndp3⟩⟩
theorem ef_11t41 (m : MethodId) (x0 : Addr) : entryFrame m #[(.ref x0)] 2 = mkF m 0 #[.val (.ref x0), .unset] [] := by first | (simp [entryFrame, mkF, argsToLocals, Value.category]; done) | rfl
def Q11t41 (Z : State) (a0 : Addr) (bh bd bp : Addr) (x0 x1 : UInt64) (h0 : Heap) (n0 : Nat) (v : Option Value) (h : Heap) (L : List Loc) : Prop := v = some (.int (0 : Int32)) ∧ Fr n0 L ∧ Keep h0 h [a0, bh, bd, bp] ∧ own_st Z n0 h a0 bh bd bp (1 : Int32) (0 : Int32) (-2 : Int32) (0 : Int32) (1 : Int32) (1 : Int32) x0 x1
set_option maxRecDepth 65536 in
set_option maxHeartbeats 40000000 in
theorem rm11t41 (l : Launch) (Z : State) (aw : Array Value) (hw : ∀ d ∈ tables_1, d.before aw Z = true) (ws : List Jvm.Cond) (a0 : Addr) (bh bd bp : Addr) (x0 x1 : UInt64) (h0 : Heap) (n0 : Nat) (Z0 : n0 ≤ h0.size) (St : own_st Z n0 h0 a0 bh bd bp (0 : Int32) (1 : Int32) (0 : Int32) (1 : Int32) (2 : Int32) (0 : Int32) x0 x1) :
    MetFree l mpoll (head1 (Jvm.Cond.code mpoll prog_64_method_6_code 2 (some .int) :: ws) rO3) (fun a U => a = #[(.ref a0)] ∧ Z.Warmed39 U.vm ∧ U.heap = h0) (fun _ _ _ _ _ => True) (fun _ U o U' => ∃ v L, o = .returned v ∧ Q11t41 Z a0 bh bd bp x0 x1 h0 n0 v U'.heap L ∧ FrameEnd U o U' L rO3.cells rO3.slots) := by
  refine MetFree.of_bodySF (plainFor_of_name pn_1) hisR ?_
  intro p e s m args below meth c s₁ Bd hml0 hP hK
  obtain ⟨rfl, hZ, hh⟩ := hP
  have hx := Bd.exec
  have hby := Bd.bytes
  have hml : c.maxLocals = 2 := hml0
  have hown : s.vm.findClass "com/example/wayshard/wayshard/service/VertexQueue" = some m.cls := findClass_of_methodNamed Bd.named
  have hnm := (name_of_methodNamed Bd.named Bd.method).1
  have hlk : meth.locks = false := BodyLoose.notSynchronized Bd
  have X0 : Stand p l e rO3 s m #[(.ref a0)] below meth c s₁ [] 0 0 := Stand.of_body Bd
  have e0 : s₁.heap = h0 := by rw [← hh, Bd.state]; rfl
  have N0 := Fr.nil n0
  show Run p e s below (Q11t41 Z a0 bh bd bp x0 x1 h0 n0) rO3.cells rO3.slots s₁ (entryFrame m #[(.ref a0)] 2)
  rw [ef_11t41]
  obtain ⟨E, Fh, Fd, Fp, Fs, Ft, Ah, Ad, Ap, g0, gh, gd, gp, n0h, n0d, n0p, nhd, nhp, ndp⟩ := St
  show Run _ _ _ _ _ _ _ s₁ (mkF m 0 #[.val (.ref a0), .unset] [])
  refine go (T' := s₁) (f' := (mkF m 1 #[.val (.ref a0), .unset] [(.ref a0)])) (by intro t k; exact XS.aloadN X0.here hx rfl (hb hby d11_0) rfl rfl k) ?_
  obtain ⟨T1, X1, e1, st1⟩ := getF X0 hx hZ hown (host := "") (Or.inl (tw hw 30 rfl)) Via.refl e0 Fs (g := (mkF m 1 #[.val (.ref a0), .unset] [(.ref a0)])) rfl rfl (hb hby d11_1)
  refine go st1 ?_
  show Run _ _ _ _ _ _ _ T1 (mkF m 4 #[.val (.ref a0), .unset] [(.int (2 : Int32))])
  refine go (T' := T1) (f' := (mkF m 15 #[.val (.ref a0), .unset] [])) (by intro t k; exact XS.ifYes X1.here hx rfl (pc0 := 4) (pc' := 15) rfl (hb hby d11_4) rfl ((if0 _ _).trans (feq (by decide : ¬ ((2 : Int32) = (0 : Int32)))).2) (by decide) (by decide) k) ?_
  refine go (T' := T1) (f' := (mkF m 16 #[.val (.ref a0), .unset] [(.ref a0)])) (by intro t k; exact XS.aloadN X1.here hx rfl (hb hby d11_15) rfl rfl k) ?_
  obtain ⟨T2, X2, e2, st2⟩ := getF X1 hx hZ hown (host := "") (Or.inl (tw hw 10 rfl)) Via.refl e1 Fh (g := (mkF m 16 #[.val (.ref a0), .unset] [(.ref a0)])) rfl rfl (hb hby d11_16)
  refine go st2 ?_
  show Run _ _ _ _ _ _ _ T2 (mkF m 19 #[.val (.ref a0), .unset] [(.ref bh)])
  refine go (T' := T2) (f' := (mkF m 20 #[.val (.ref a0), .unset] [(.int (0 : Int32)), (.ref bh)])) (by intro t k; exact XS.iconst X2.here hx rfl (hb hby d11_19) k) ?_
  refine go (T' := T2) (f' := (mkF m 21 #[.val (.ref a0), .unset] [(.int (0 : Int32))])) (by intro t k; exact ldI X2 hx hZ e2 Ah (j := (0 : Int32)) (v := (.int (0 : Int32))) (by decide) rfl (g := (mkF m 20 #[.val (.ref a0), .unset] [(.int (0 : Int32)), (.ref bh)])) rfl rfl (hb hby d11_20) _ k) ?_
  refine go (T' := T2) (f' := (mkF m 22 #[.val (.ref a0), .val (.int (0 : Int32))] [])) (by intro t k; exact XS.istoreN X2.here hx rfl (hb hby d11_21) rfl (l' := #[.val (.ref a0), .val (.int (0 : Int32))]) rfl k) ?_
  refine go (T' := T2) (f' := (mkF m 23 #[.val (.ref a0), .val (.int (0 : Int32))] [(.ref a0)])) (by intro t k; exact XS.aloadN X2.here hx rfl (hb hby d11_22) rfl rfl k) ?_
  refine go (T' := T2) (f' := (mkF m 24 #[.val (.ref a0), .val (.int (0 : Int32))] [(.ref a0), (.ref a0)])) (by intro t k; exact XS.dup X2.here hx rfl (hb hby d11_23) rfl rfl k) ?_
  obtain ⟨T3, X3, e3, st3⟩ := getF X2 hx hZ hown (host := "") (Or.inl (tw hw 30 rfl)) Via.refl e2 Fs (g := (mkF m 24 #[.val (.ref a0), .val (.int (0 : Int32))] [(.ref a0), (.ref a0)])) rfl rfl (hb hby d11_24)
  refine go st3 ?_
  show Run _ _ _ _ _ _ _ T3 (mkF m 27 #[.val (.ref a0), .val (.int (0 : Int32))] [(.int (2 : Int32)), (.ref a0)])
  refine go (T' := T3) (f' := (mkF m 28 #[.val (.ref a0), .val (.int (0 : Int32))] [(.int (1 : Int32)), (.int (2 : Int32)), (.ref a0)])) (by intro t k; exact XS.iconst X3.here hx rfl (hb hby d11_27) k) ?_
  refine go (T' := T3) (f' := (mkF m 29 #[.val (.ref a0), .val (.int (0 : Int32))] [(.int (1 : Int32)), (.ref a0)])) (by intro t k; exact XS.isub X3.here hx rfl (hb hby d11_28) rfl k) ?_
  obtain ⟨T4, h4, X4, e4, W4, st4⟩ := putF X3 hx hZ hown (host := "") (Or.inl (tw hw 30 rfl)) Via.refl e3 Fs E (Or.inl (tw hw 31 rfl)) (tw hw 1 rfl) (ty := .int) (by decide) rfl rfl (g := (mkF m 29 #[.val (.ref a0), .val (.int (0 : Int32))] [(.int (1 : Int32)), (.ref a0)])) rfl rfl (hb hby d11_29)
  have K4 : Keep h0 h4 [a0] := Keep.of_wr W4
  have F4_a0_heap := Fld.other W4 Fh (Or.inr (slot_ne (Or.inr (tw hw 11 rfl)) (Or.inl (tw hw 31 rfl)) (by decide) (t := (.array .int)) (t' := .int) (by decide) (by decide)))
  have F4_a0_priorities := Fld.other W4 Fd (Or.inr (slot_ne (Or.inr (tw hw 14 rfl)) (Or.inl (tw hw 31 rfl)) (by decide) (t := (.array .double)) (t' := .int) (by decide) (by decide)))
  have F4_a0_places := Fld.other W4 Fp (Or.inr (slot_ne (Or.inr (tw hw 16 rfl)) (Or.inl (tw hw 31 rfl)) (by decide) (t := (.array .int)) (t' := .int) (by decide) (by decide)))
  have F4_a0_size : Fld Z h4 a0 "com/example/wayshard/wayshard/service/VertexQueue" "size" "I" (.int (1 : Int32)) := Fs.same W4
  have F4_a0_taken := Fld.other W4 Ft (Or.inr (slot_ne (Or.inl (tw hw 33 rfl)) (Or.inl (tw hw 31 rfl)) (by decide) (t := .int) (t' := .int) (by decide) (by decide)))
  have N4 := Fr.snoc X4 N0 g0
  have E4_a0 := Exa.keep E K4
  have A4_bh := Ary.keep Ah K4 (ninS (Ne.symm n0h) nin0)
  have A4_bd := Ary.keep Ad K4 (ninS (Ne.symm n0d) nin0)
  have A4_bp := Ary.keep Ap K4 (ninS (Ne.symm n0p) nin0)
  have Z4 : n0 ≤ h4.size := Nat.le_trans Z0 K4.1
  have KK4 : Keep h0 h4 [a0, bh, bd, bp] := (Keep.refl _ _).trans K4 (allS (Or.inl (List.mem_of_getElem? (i := 0) rfl)) all0)
  refine go st4 ?_
  show Run _ _ _ _ _ _ _ T4 (mkF m 32 #[.val (.ref a0), .val (.int (0 : Int32))] [])
  refine go (T' := T4) (f' := (mkF m 33 #[.val (.ref a0), .val (.int (0 : Int32))] [(.ref a0)])) (by intro t k; exact XS.aloadN X4.here hx rfl (hb hby d11_32) rfl rfl k) ?_
  obtain ⟨T5, X5, e5, st5⟩ := getF X4 hx hZ hown (host := "") (Or.inl (tw hw 30 rfl)) Via.refl e4 F4_a0_size (g := (mkF m 33 #[.val (.ref a0), .val (.int (0 : Int32))] [(.ref a0)])) rfl rfl (hb hby d11_33)
  refine go st5 ?_
  show Run _ _ _ _ _ _ _ T5 (mkF m 36 #[.val (.ref a0), .val (.int (0 : Int32))] [(.int (1 : Int32))])
  refine go (T' := T5) (f' := (mkF m 39 #[.val (.ref a0), .val (.int (0 : Int32))] [])) (by intro t k; exact XS.ifNo X5.here hx rfl (hb hby d11_36) rfl ((if0 _ _).trans (tlt (by decide : (0 : Int32) < (1 : Int32))).2.2.2) k) ?_
  refine go (T' := T5) (f' := (mkF m 40 #[.val (.ref a0), .val (.int (0 : Int32))] [(.ref a0)])) (by intro t k; exact XS.aloadN X5.here hx rfl (hb hby d11_39) rfl rfl k) ?_
  obtain ⟨T6, X6, e6, st6⟩ := getF X5 hx hZ hown (host := "") (Or.inl (tw hw 10 rfl)) Via.refl e5 F4_a0_heap (g := (mkF m 40 #[.val (.ref a0), .val (.int (0 : Int32))] [(.ref a0)])) rfl rfl (hb hby d11_40)
  refine go st6 ?_
  show Run _ _ _ _ _ _ _ T6 (mkF m 43 #[.val (.ref a0), .val (.int (0 : Int32))] [(.ref bh)])
  refine go (T' := T6) (f' := (mkF m 44 #[.val (.ref a0), .val (.int (0 : Int32))] [(.int (0 : Int32)), (.ref bh)])) (by intro t k; exact XS.iconst X6.here hx rfl (hb hby d11_43) k) ?_
  refine go (T' := T6) (f' := (mkF m 45 #[.val (.ref a0), .val (.int (0 : Int32))] [(.ref a0), (.int (0 : Int32)), (.ref bh)])) (by intro t k; exact XS.aloadN X6.here hx rfl (hb hby d11_44) rfl rfl k) ?_
  obtain ⟨T7, X7, e7, st7⟩ := getF X6 hx hZ hown (host := "") (Or.inl (tw hw 10 rfl)) Via.refl e6 F4_a0_heap (g := (mkF m 45 #[.val (.ref a0), .val (.int (0 : Int32))] [(.ref a0), (.int (0 : Int32)), (.ref bh)])) rfl rfl (hb hby d11_45)
  refine go st7 ?_
  show Run _ _ _ _ _ _ _ T7 (mkF m 48 #[.val (.ref a0), .val (.int (0 : Int32))] [(.ref bh), (.int (0 : Int32)), (.ref bh)])
  refine go (T' := T7) (f' := (mkF m 49 #[.val (.ref a0), .val (.int (0 : Int32))] [(.ref a0), (.ref bh), (.int (0 : Int32)), (.ref bh)])) (by intro t k; exact XS.aloadN X7.here hx rfl (hb hby d11_48) rfl rfl k) ?_
  obtain ⟨T8, X8, e8, st8⟩ := getF X7 hx hZ hown (host := "") (Or.inl (tw hw 30 rfl)) Via.refl e7 F4_a0_size (g := (mkF m 49 #[.val (.ref a0), .val (.int (0 : Int32))] [(.ref a0), (.ref bh), (.int (0 : Int32)), (.ref bh)])) rfl rfl (hb hby d11_49)
  refine go st8 ?_
  show Run _ _ _ _ _ _ _ T8 (mkF m 52 #[.val (.ref a0), .val (.int (0 : Int32))] [(.int (1 : Int32)), (.ref bh), (.int (0 : Int32)), (.ref bh)])
  refine go (T' := T8) (f' := (mkF m 53 #[.val (.ref a0), .val (.int (0 : Int32))] [(.int (1 : Int32)), (.int (0 : Int32)), (.ref bh)])) (by intro t k; exact ldI X8 hx hZ e8 A4_bh (j := (1 : Int32)) (v := (.int (1 : Int32))) (by decide) rfl (g := (mkF m 52 #[.val (.ref a0), .val (.int (0 : Int32))] [(.int (1 : Int32)), (.ref bh), (.int (0 : Int32)), (.ref bh)])) rfl rfl (hb hby d11_52) _ k) ?_
  obtain ⟨cl9, Ar9, hin9⟩ := Ary.st (j := (0 : Int32)) A4_bh (by decide) (by show (0 : Int32).toNatClampNeg < 2; decide)
  obtain ⟨T9, h9, X9, e9, W9, st9⟩ := stI X8 hx hZ e8 Ar9 (j := (0 : Int32)) hin9 (g := (mkF m 53 #[.val (.ref a0), .val (.int (0 : Int32))] [(.int (1 : Int32)), (.int (0 : Int32)), (.ref bh)])) rfl rfl (hb hby d11_53)
  have K9 : Keep h4 h9 [bh] := Keep.of_wr W9
  have V9 : Ary Z h9 bh .int [(.int (1 : Int32)), (.int (1 : Int32))] := Ary.set A4_bh W9 rfl
  have N9 := Fr.snoc X9 N4 gh
  have E9_a0 := Exa.keep E4_a0 K9
  have F9_a0_heap := Fld.keep F4_a0_heap K9 (ninS n0h nin0)
  have F9_a0_priorities := Fld.keep F4_a0_priorities K9 (ninS n0h nin0)
  have F9_a0_places := Fld.keep F4_a0_places K9 (ninS n0h nin0)
  have F9_a0_size := Fld.keep F4_a0_size K9 (ninS n0h nin0)
  have F9_a0_taken := Fld.keep F4_a0_taken K9 (ninS n0h nin0)
  have A9_bd := Ary.keep A4_bd K9 (ninS (Ne.symm nhd) nin0)
  have A9_bp := Ary.keep A4_bp K9 (ninS (Ne.symm nhp) nin0)
  have Z9 : n0 ≤ h9.size := Nat.le_trans Z4 K9.1
  have KK9 : Keep h0 h9 [a0, bh, bd, bp] := KK4.trans K9 (allS (Or.inl (List.mem_of_getElem? (i := 1) rfl)) all0)
  refine go st9 ?_
  show Run _ _ _ _ _ _ _ T9 (mkF m 54 #[.val (.ref a0), .val (.int (0 : Int32))] [])
  refine go (T' := T9) (f' := (mkF m 55 #[.val (.ref a0), .val (.int (0 : Int32))] [(.ref a0)])) (by intro t k; exact XS.aloadN X9.here hx rfl (hb hby d11_54) rfl rfl k) ?_
  obtain ⟨T10, X10, e10, st10⟩ := getF X9 hx hZ hown (host := "") (Or.inl (tw hw 15 rfl)) Via.refl e9 F9_a0_places (g := (mkF m 55 #[.val (.ref a0), .val (.int (0 : Int32))] [(.ref a0)])) rfl rfl (hb hby d11_55)
  refine go st10 ?_
  show Run _ _ _ _ _ _ _ T10 (mkF m 58 #[.val (.ref a0), .val (.int (0 : Int32))] [(.ref bp)])
  refine go (T' := T10) (f' := (mkF m 59 #[.val (.ref a0), .val (.int (0 : Int32))] [(.ref a0), (.ref bp)])) (by intro t k; exact XS.aloadN X10.here hx rfl (hb hby d11_58) rfl rfl k) ?_
  obtain ⟨T11, X11, e11, st11⟩ := getF X10 hx hZ hown (host := "") (Or.inl (tw hw 10 rfl)) Via.refl e10 F9_a0_heap (g := (mkF m 59 #[.val (.ref a0), .val (.int (0 : Int32))] [(.ref a0), (.ref bp)])) rfl rfl (hb hby d11_59)
  refine go st11 ?_
  show Run _ _ _ _ _ _ _ T11 (mkF m 62 #[.val (.ref a0), .val (.int (0 : Int32))] [(.ref bh), (.ref bp)])
  refine go (T' := T11) (f' := (mkF m 63 #[.val (.ref a0), .val (.int (0 : Int32))] [(.int (0 : Int32)), (.ref bh), (.ref bp)])) (by intro t k; exact XS.iconst X11.here hx rfl (hb hby d11_62) k) ?_
  refine go (T' := T11) (f' := (mkF m 64 #[.val (.ref a0), .val (.int (0 : Int32))] [(.int (1 : Int32)), (.ref bp)])) (by intro t k; exact ldI X11 hx hZ e11 V9 (j := (0 : Int32)) (v := (.int (1 : Int32))) (by decide) rfl (g := (mkF m 63 #[.val (.ref a0), .val (.int (0 : Int32))] [(.int (0 : Int32)), (.ref bh), (.ref bp)])) rfl rfl (hb hby d11_63) _ k) ?_
  refine go (T' := T11) (f' := (mkF m 65 #[.val (.ref a0), .val (.int (0 : Int32))] [(.int (0 : Int32)), (.int (1 : Int32)), (.ref bp)])) (by intro t k; exact XS.iconst X11.here hx rfl (hb hby d11_64) k) ?_
  obtain ⟨cl12, Ar12, hin12⟩ := Ary.st (j := (1 : Int32)) A9_bp (by decide) (by show (1 : Int32).toNatClampNeg < 2; decide)
  obtain ⟨T12, h12, X12, e12, W12, st12⟩ := stI X11 hx hZ e11 Ar12 (j := (1 : Int32)) hin12 (g := (mkF m 65 #[.val (.ref a0), .val (.int (0 : Int32))] [(.int (0 : Int32)), (.int (1 : Int32)), (.ref bp)])) rfl rfl (hb hby d11_65)
  have K12 : Keep h9 h12 [bp] := Keep.of_wr W12
  have V12 : Ary Z h12 bp .int [(.int (0 : Int32)), (.int (0 : Int32))] := Ary.set A9_bp W12 rfl
  have N12 := Fr.snoc X12 N9 gp
  have E12_a0 := Exa.keep E9_a0 K12
  have F12_a0_heap := Fld.keep F9_a0_heap K12 (ninS n0p nin0)
  have F12_a0_priorities := Fld.keep F9_a0_priorities K12 (ninS n0p nin0)
  have F12_a0_places := Fld.keep F9_a0_places K12 (ninS n0p nin0)
  have F12_a0_size := Fld.keep F9_a0_size K12 (ninS n0p nin0)
  have F12_a0_taken := Fld.keep F9_a0_taken K12 (ninS n0p nin0)
  have A12_bh := Ary.keep V9 K12 (ninS nhp nin0)
  have A12_bd := Ary.keep A9_bd K12 (ninS ndp nin0)
  have Z12 : n0 ≤ h12.size := Nat.le_trans Z9 K12.1
  have KK12 : Keep h0 h12 [a0, bh, bd, bp] := KK9.trans K12 (allS (Or.inl (List.mem_of_getElem? (i := 3) rfl)) all0)
  refine go st12 ?_
  show Run _ _ _ _ _ _ _ T12 (mkF m 66 #[.val (.ref a0), .val (.int (0 : Int32))] [])
  refine go (T' := T12) (f' := (mkF m 67 #[.val (.ref a0), .val (.int (0 : Int32))] [(.ref a0)])) (by intro t k; exact XS.aloadN X12.here hx rfl (hb hby d11_66) rfl rfl k) ?_
  refine go (T' := T12) (f' := (mkF m 68 #[.val (.ref a0), .val (.int (0 : Int32))] [(.int (0 : Int32)), (.ref a0)])) (by intro t k; exact XS.iconst X12.here hx rfl (hb hby d11_67) k) ?_
  obtain ⟨cq13, q13, q13'⟩ := (E12_a0).cell
  obtain ⟨_, _, ⟨T13, Lz13, kz13, nz13⟩, -, X13, ⟨Lc13, hQ13, lz13, yz13, zz13⟩, st13⟩ := X12.privateBack hx (y := msiftDown) hown (mvT hZ (tw hw 62 rfl)) (mvT hZ (tw hw 63 rfl)) (selP (y := msiftDown) (mvT hZ (tw hw 1 rfl)) (Cond.privateMethod_at (mvP hZ (tw hw 64 rfl) (args := #[]))) (mvT hZ (tw hw 63 rfl)) (by decide)) (Cond.privateMethod_at (mvP hZ (tw hw 64 rfl) (args := #[]))) (mvT hZ (tw hw 65 rfl)) (by decide) (backOf (W := 0) (rm12t42 l Z aw hw [] a0 bh bd bp x0 x1  h12 n0 Z12 ⟨E12_a0, F12_a0_heap, F12_a0_priorities, F12_a0_places, F12_a0_size, F12_a0_taken, A12_bh, A12_bd, V12, g0, gh, gd, gp, n0h, n0d, n0p, nhd, nhp, ndp⟩) hZ (tw hw 65 rfl) (tw hw 2 rfl) (by decide) (by decide)) (g := (mkF m 68 #[.val (.ref a0), .val (.int (0 : Int32))] [(.int (0 : Int32)), (.ref a0)])) rfl (by rw [hml]; rfl) (Steps.refl _) (a := a0) (by rw [e12]; exact q13) q13' (argsL := [(.int (0 : Int32))]) (rest := []) (lenOf pd_28I29V rfl) rfl (by show 2 * 0 + _ ≤ _; exact Nat.le_of_eq rfl) (hb hby d11_68) (fun _ _ => ⟨rfl, e12, (by decide : 0 + 0 ≤ _), (by decide : 0 + 0 ≤ _)⟩)
  dsimp only [Pt.U, Pt.locs, Pt.cells, Pt.slots] at X13 lz13 yz13 zz13 st13 hQ13
  subst lz13 yz13 zz13
  obtain ⟨rfl, N13q, K13, hD13⟩ := hQ13
  have E13_a0 := Exa.keep E12_a0 K13
  have Z13 : n0 ≤ T13.heap.size := Nat.le_trans Z12 K13.1
  have KK13 : Keep h0 T13.heap [a0, bh, bd, bp] := KK12.trans K13 (allS (Or.inl (List.mem_of_getElem? (i := 0) rfl)) (allS (Or.inl (List.mem_of_getElem? (i := 1) rfl)) (allS (Or.inl (List.mem_of_getElem? (i := 2) rfl)) (allS (Or.inl (List.mem_of_getElem? (i := 3) rfl)) all0))))
  obtain ⟨E13, Fh13, Fd13, Fp13, Fs13, Ft13, Ah13, Ad13, Ap13, g013, gh13, gd13, gp13, n0h13, n0d13, n0p13, nhd13, nhp13, ndp13⟩ := hD13
  have N13 := Fr.app N12 N13q
  refine go (fun _ k => st13.trans k) ?_
  show Run _ _ _ _ _ _ _ T13 (mkF m 71 #[.val (.ref a0), .val (.int (0 : Int32))] [])
  refine go (T' := T13) (f' := (mkF m 72 #[.val (.ref a0), .val (.int (0 : Int32))] [(.ref a0)])) (by intro t k; exact XS.aloadN X13.here hx rfl (hb hby d11_71) rfl rfl k) ?_
  refine go (T' := T13) (f' := (mkF m 73 #[.val (.ref a0), .val (.int (0 : Int32))] [(.ref a0), (.ref a0)])) (by intro t k; exact XS.dup X13.here hx rfl (hb hby d11_72) rfl rfl k) ?_
  obtain ⟨T14, X14, e14, st14⟩ := getF X13 hx hZ hown (host := "") (Or.inl (tw hw 32 rfl)) Via.refl rfl Ft13 (g := (mkF m 73 #[.val (.ref a0), .val (.int (0 : Int32))] [(.ref a0), (.ref a0)])) rfl rfl (hb hby d11_73)
  refine go st14 ?_
  show Run _ _ _ _ _ _ _ T14 (mkF m 76 #[.val (.ref a0), .val (.int (0 : Int32))] [(.int (0 : Int32)), (.ref a0)])
  refine go (T' := T14) (f' := (mkF m 77 #[.val (.ref a0), .val (.int (0 : Int32))] [(.int (1 : Int32)), (.int (0 : Int32)), (.ref a0)])) (by intro t k; exact XS.iconst X14.here hx rfl (hb hby d11_76) k) ?_
  refine go (T' := T14) (f' := (mkF m 78 #[.val (.ref a0), .val (.int (0 : Int32))] [(.int (1 : Int32)), (.ref a0)])) (by intro t k; exact XS.iadd X14.here hx rfl (hb hby d11_77) rfl k) ?_
  obtain ⟨T15, h15, X15, e15, W15, st15⟩ := putF X14 hx hZ hown (host := "") (Or.inl (tw hw 32 rfl)) Via.refl e14 Ft13 E13 (Or.inl (tw hw 33 rfl)) (tw hw 1 rfl) (ty := .int) (by decide) rfl rfl (g := (mkF m 78 #[.val (.ref a0), .val (.int (0 : Int32))] [(.int (1 : Int32)), (.ref a0)])) rfl rfl (hb hby d11_78)
  have K15 : Keep T13.heap h15 [a0] := Keep.of_wr W15
  have F15_a0_heap := Fld.other W15 Fh13 (Or.inr (slot_ne (Or.inr (tw hw 11 rfl)) (Or.inl (tw hw 33 rfl)) (by decide) (t := (.array .int)) (t' := .int) (by decide) (by decide)))
  have F15_a0_priorities := Fld.other W15 Fd13 (Or.inr (slot_ne (Or.inr (tw hw 14 rfl)) (Or.inl (tw hw 33 rfl)) (by decide) (t := (.array .double)) (t' := .int) (by decide) (by decide)))
  have F15_a0_places := Fld.other W15 Fp13 (Or.inr (slot_ne (Or.inr (tw hw 16 rfl)) (Or.inl (tw hw 33 rfl)) (by decide) (t := (.array .int)) (t' := .int) (by decide) (by decide)))
  have F15_a0_size := Fld.other W15 Fs13 (Or.inr (slot_ne (Or.inl (tw hw 31 rfl)) (Or.inl (tw hw 33 rfl)) (by decide) (t := .int) (t' := .int) (by decide) (by decide)))
  have F15_a0_taken : Fld Z h15 a0 "com/example/wayshard/wayshard/service/VertexQueue" "taken" "I" (.int (1 : Int32)) := Ft13.same W15
  have N15 := Fr.snoc X15 N13 g013
  have E15_a0 := Exa.keep E13 K15
  have A15_bh := Ary.keep Ah13 K15 (ninS (Ne.symm n0h13) nin0)
  have A15_bd := Ary.keep Ad13 K15 (ninS (Ne.symm n0d13) nin0)
  have A15_bp := Ary.keep Ap13 K15 (ninS (Ne.symm n0p13) nin0)
  have Z15 : n0 ≤ h15.size := Nat.le_trans Z13 K15.1
  have KK15 : Keep h0 h15 [a0, bh, bd, bp] := KK13.trans K15 (allS (Or.inl (List.mem_of_getElem? (i := 0) rfl)) all0)
  refine go st15 ?_
  show Run _ _ _ _ _ _ _ T15 (mkF m 81 #[.val (.ref a0), .val (.int (0 : Int32))] [])
  refine go (T' := T15) (f' := (mkF m 82 #[.val (.ref a0), .val (.int (0 : Int32))] [(.ref a0)])) (by intro t k; exact XS.aloadN X15.here hx rfl (hb hby d11_81) rfl rfl k) ?_
  obtain ⟨T16, X16, e16, st16⟩ := getF X15 hx hZ hown (host := "") (Or.inl (tw hw 10 rfl)) Via.refl e15 F15_a0_heap (g := (mkF m 82 #[.val (.ref a0), .val (.int (0 : Int32))] [(.ref a0)])) rfl rfl (hb hby d11_82)
  refine go st16 ?_
  show Run _ _ _ _ _ _ _ T16 (mkF m 85 #[.val (.ref a0), .val (.int (0 : Int32))] [(.ref bh)])
  refine go (T' := T16) (f' := (mkF m 86 #[.val (.ref a0), .val (.int (0 : Int32))] [(.ref a0), (.ref bh)])) (by intro t k; exact XS.aloadN X16.here hx rfl (hb hby d11_85) rfl rfl k) ?_
  obtain ⟨T17, X17, e17, st17⟩ := getF X16 hx hZ hown (host := "") (Or.inl (tw hw 10 rfl)) Via.refl e16 F15_a0_heap (g := (mkF m 86 #[.val (.ref a0), .val (.int (0 : Int32))] [(.ref a0), (.ref bh)])) rfl rfl (hb hby d11_86)
  refine go st17 ?_
  show Run _ _ _ _ _ _ _ T17 (mkF m 89 #[.val (.ref a0), .val (.int (0 : Int32))] [(.ref bh), (.ref bh)])
  refine go (T' := T17) (f' := (mkF m 90 #[.val (.ref a0), .val (.int (0 : Int32))] [(.int (2 : Int32)), (.ref bh)])) (by intro t k; exact alen X17 hx hZ e17 A15_bh (z := (2 : Int32)) rfl (g := (mkF m 89 #[.val (.ref a0), .val (.int (0 : Int32))] [(.ref bh), (.ref bh)])) rfl rfl (hb hby d11_89) _ k) ?_
  refine go (T' := T17) (f' := (mkF m 91 #[.val (.ref a0), .val (.int (0 : Int32))] [(.ref a0), (.int (2 : Int32)), (.ref bh)])) (by intro t k; exact XS.aloadN X17.here hx rfl (hb hby d11_90) rfl rfl k) ?_
  obtain ⟨T18, X18, e18, st18⟩ := getF X17 hx hZ hown (host := "") (Or.inl (tw hw 32 rfl)) Via.refl e17 F15_a0_taken (g := (mkF m 91 #[.val (.ref a0), .val (.int (0 : Int32))] [(.ref a0), (.int (2 : Int32)), (.ref bh)])) rfl rfl (hb hby d11_91)
  refine go st18 ?_
  show Run _ _ _ _ _ _ _ T18 (mkF m 94 #[.val (.ref a0), .val (.int (0 : Int32))] [(.int (1 : Int32)), (.int (2 : Int32)), (.ref bh)])
  refine go (T' := T18) (f' := (mkF m 95 #[.val (.ref a0), .val (.int (0 : Int32))] [(.int (1 : Int32)), (.ref bh)])) (by intro t k; exact XS.isub X18.here hx rfl (hb hby d11_94) rfl k) ?_
  refine go (T' := T18) (f' := (mkF m 96 #[.val (.ref a0), .val (.int (0 : Int32))] [(.int (0 : Int32)), (.int (1 : Int32)), (.ref bh)])) (by intro t k; exact XS.iloadN X18.here hx rfl (hb hby d11_95) rfl k) ?_
  obtain ⟨cl19, Ar19, hin19⟩ := Ary.st (j := (1 : Int32)) A15_bh (by decide) (by show (1 : Int32).toNatClampNeg < 2; decide)
  obtain ⟨T19, h19, X19, e19, W19, st19⟩ := stI X18 hx hZ e18 Ar19 (j := (1 : Int32)) hin19 (g := (mkF m 96 #[.val (.ref a0), .val (.int (0 : Int32))] [(.int (0 : Int32)), (.int (1 : Int32)), (.ref bh)])) rfl rfl (hb hby d11_96)
  have K19 : Keep h15 h19 [bh] := Keep.of_wr W19
  have V19 : Ary Z h19 bh .int [(.int (1 : Int32)), (.int (0 : Int32))] := Ary.set A15_bh W19 rfl
  have N19 := Fr.snoc X19 N15 gh13
  have E19_a0 := Exa.keep E15_a0 K19
  have F19_a0_heap := Fld.keep F15_a0_heap K19 (ninS n0h13 nin0)
  have F19_a0_priorities := Fld.keep F15_a0_priorities K19 (ninS n0h13 nin0)
  have F19_a0_places := Fld.keep F15_a0_places K19 (ninS n0h13 nin0)
  have F19_a0_size := Fld.keep F15_a0_size K19 (ninS n0h13 nin0)
  have F19_a0_taken := Fld.keep F15_a0_taken K19 (ninS n0h13 nin0)
  have A19_bd := Ary.keep A15_bd K19 (ninS (Ne.symm nhd13) nin0)
  have A19_bp := Ary.keep A15_bp K19 (ninS (Ne.symm nhp13) nin0)
  have Z19 : n0 ≤ h19.size := Nat.le_trans Z15 K19.1
  have KK19 : Keep h0 h19 [a0, bh, bd, bp] := KK15.trans K19 (allS (Or.inl (List.mem_of_getElem? (i := 1) rfl)) all0)
  refine go st19 ?_
  show Run _ _ _ _ _ _ _ T19 (mkF m 97 #[.val (.ref a0), .val (.int (0 : Int32))] [])
  refine go (T' := T19) (f' := (mkF m 98 #[.val (.ref a0), .val (.int (0 : Int32))] [(.ref a0)])) (by intro t k; exact XS.aloadN X19.here hx rfl (hb hby d11_97) rfl rfl k) ?_
  obtain ⟨T20, X20, e20, st20⟩ := getF X19 hx hZ hown (host := "") (Or.inl (tw hw 15 rfl)) Via.refl e19 F19_a0_places (g := (mkF m 98 #[.val (.ref a0), .val (.int (0 : Int32))] [(.ref a0)])) rfl rfl (hb hby d11_98)
  refine go st20 ?_
  show Run _ _ _ _ _ _ _ T20 (mkF m 101 #[.val (.ref a0), .val (.int (0 : Int32))] [(.ref bp)])
  refine go (T' := T20) (f' := (mkF m 102 #[.val (.ref a0), .val (.int (0 : Int32))] [(.int (0 : Int32)), (.ref bp)])) (by intro t k; exact XS.iloadN X20.here hx rfl (hb hby d11_101) rfl k) ?_
  refine go (T' := T20) (f' := (mkF m 104 #[.val (.ref a0), .val (.int (0 : Int32))] [(.int (-2 : Int32)), (.int (0 : Int32)), (.ref bp)])) (by intro t k; exact XS.bipush X20.here hx rfl (hb hby d11_102) k) ?_
  obtain ⟨cl21, Ar21, hin21⟩ := Ary.st (j := (0 : Int32)) A19_bp (by decide) (by show (0 : Int32).toNatClampNeg < 2; decide)
  obtain ⟨T21, h21, X21, e21, W21, st21⟩ := stI X20 hx hZ e20 Ar21 (j := (0 : Int32)) hin21 (g := (mkF m 104 #[.val (.ref a0), .val (.int (0 : Int32))] [(.int (-2 : Int32)), (.int (0 : Int32)), (.ref bp)])) rfl rfl (hb hby d11_104)
  have K21 : Keep h19 h21 [bp] := Keep.of_wr W21
  have V21 : Ary Z h21 bp .int [(.int (-2 : Int32)), (.int (0 : Int32))] := Ary.set A19_bp W21 rfl
  have N21 := Fr.snoc X21 N19 gp13
  have E21_a0 := Exa.keep E19_a0 K21
  have F21_a0_heap := Fld.keep F19_a0_heap K21 (ninS n0p13 nin0)
  have F21_a0_priorities := Fld.keep F19_a0_priorities K21 (ninS n0p13 nin0)
  have F21_a0_places := Fld.keep F19_a0_places K21 (ninS n0p13 nin0)
  have F21_a0_size := Fld.keep F19_a0_size K21 (ninS n0p13 nin0)
  have F21_a0_taken := Fld.keep F19_a0_taken K21 (ninS n0p13 nin0)
  have A21_bh := Ary.keep V19 K21 (ninS nhp13 nin0)
  have A21_bd := Ary.keep A19_bd K21 (ninS ndp13 nin0)
  have Z21 : n0 ≤ h21.size := Nat.le_trans Z19 K21.1
  have KK21 : Keep h0 h21 [a0, bh, bd, bp] := KK19.trans K21 (allS (Or.inl (List.mem_of_getElem? (i := 3) rfl)) all0)
  refine go st21 ?_
  show Run _ _ _ _ _ _ _ T21 (mkF m 105 #[.val (.ref a0), .val (.int (0 : Int32))] [])
  refine go (T' := T21) (f' := (mkF m 106 #[.val (.ref a0), .val (.int (0 : Int32))] [(.int (0 : Int32))])) (by intro t k; exact XS.iloadN X21.here hx rfl (hb hby d11_105) rfl k) ?_
  refine retW X21 hx (t := .int) Bd.returns rfl (Or.inl ⟨rfl, Or.inl rfl, _, rfl⟩) (hb hby d11_106) hlk (by decide) (by decide) ?_
  show Q11t41 Z a0 bh bd bp x0 x1 h0 n0 _ T21.heap _
  rw [e21]
  have hv : (some (.int (0 : Int32)) : Option Value) = some (.int (0 : Int32)) := rfl
  exact ⟨hv, N21, KK21, ⟨E21_a0, F21_a0_heap, F21_a0_priorities, F21_a0_places, F21_a0_size, F21_a0_taken, A21_bh, A21_bd, V21, g013, gh13, gd13, gp13, n0h13, n0d13, n0p13, nhd13, nhp13, ndp13⟩⟩
theorem ef_5t44 (m : MethodId) (x0 : Addr) : entryFrame m #[(.ref x0)] 2 = mkF m 0 #[.val (.ref x0), .unset] [] := by first | (simp [entryFrame, mkF, argsToLocals, Value.category]; done) | rfl
def Q5t44 (Z : State) (a0 : Addr) (bh bd bp : Addr) (x0 x1 : UInt64) (h0 : Heap) (n0 : Nat) (v : Option Value) (h : Heap) (L : List Loc) : Prop := v = none ∧ Fr n0 L ∧ Keep h0 h [a0, bh, bd, bp] ∧ own_st Z n0 h a0 bh bd bp (1 : Int32) (0 : Int32) (-1 : Int32) (-1 : Int32) (0 : Int32) (0 : Int32) x0 x1
set_option maxRecDepth 65536 in
set_option maxHeartbeats 40000000 in
theorem rm5t44 (l : Launch) (Z : State) (aw : Array Value) (hw : ∀ d ∈ tables_1, d.before aw Z = true) (ws : List Jvm.Cond) (a0 : Addr) (bh bd bp : Addr) (x0 x1 : UInt64) (h0 : Heap) (n0 : Nat) (Z0 : n0 ≤ h0.size) (St : own_st Z n0 h0 a0 bh bd bp (1 : Int32) (0 : Int32) (-2 : Int32) (0 : Int32) (1 : Int32) (1 : Int32) x0 x1) :
    MetFree l mclear (head1 (Jvm.Cond.code mclear prog_64_method_3_code 2 none :: ws) rO0) (fun a U => a = #[(.ref a0)] ∧ Z.Warmed39 U.vm ∧ U.heap = h0) (fun _ _ _ _ _ => True) (fun _ U o U' => ∃ v L, o = .returned v ∧ Q5t44 Z a0 bh bd bp x0 x1 h0 n0 v U'.heap L ∧ FrameEnd U o U' L rO0.cells rO0.slots) := by
  refine MetFree.of_bodySF (plainFor_of_name pn_1) hisR ?_
  intro p e s m args below meth c s₁ Bd hml0 hP hK
  obtain ⟨rfl, hZ, hh⟩ := hP
  have hx := Bd.exec
  have hby := Bd.bytes
  have hml : c.maxLocals = 2 := hml0
  have hown : s.vm.findClass "com/example/wayshard/wayshard/service/VertexQueue" = some m.cls := findClass_of_methodNamed Bd.named
  have hnm := (name_of_methodNamed Bd.named Bd.method).1
  have hlk : meth.locks = false := BodyLoose.notSynchronized Bd
  have X0 : Stand p l e rO0 s m #[(.ref a0)] below meth c s₁ [] 0 0 := Stand.of_body Bd
  have e0 : s₁.heap = h0 := by rw [← hh, Bd.state]; rfl
  have N0 := Fr.nil n0
  show Run p e s below (Q5t44 Z a0 bh bd bp x0 x1 h0 n0) rO0.cells rO0.slots s₁ (entryFrame m #[(.ref a0)] 2)
  rw [ef_5t44]
  obtain ⟨E, Fh, Fd, Fp, Fs, Ft, Ah, Ad, Ap, g0, gh, gd, gp, n0h, n0d, n0p, nhd, nhp, ndp⟩ := St
  show Run _ _ _ _ _ _ _ s₁ (mkF m 0 #[.val (.ref a0), .unset] [])
  refine go (T' := s₁) (f' := (mkF m 1 #[.val (.ref a0), .unset] [(.int (0 : Int32))])) (by intro t k; exact XS.iconst X0.here hx rfl (hb hby d5_0) k) ?_
  refine go (T' := s₁) (f' := (mkF m 2 #[.val (.ref a0), .val (.int (0 : Int32))] [])) (by intro t k; exact XS.istoreN X0.here hx rfl (hb hby d5_1) rfl (l' := #[.val (.ref a0), .val (.int (0 : Int32))]) rfl k) ?_
  refine go (T' := s₁) (f' := (mkF m 3 #[.val (.ref a0), .val (.int (0 : Int32))] [(.int (0 : Int32))])) (by intro t k; exact XS.iloadN X0.here hx rfl (hb hby d5_2) rfl k) ?_
  refine go (T' := s₁) (f' := (mkF m 4 #[.val (.ref a0), .val (.int (0 : Int32))] [(.ref a0), (.int (0 : Int32))])) (by intro t k; exact XS.aloadN X0.here hx rfl (hb hby d5_3) rfl rfl k) ?_
  obtain ⟨T1, X1, e1, st1⟩ := getF X0 hx hZ hown (host := "") (Or.inl (tw hw 30 rfl)) Via.refl e0 Fs (g := (mkF m 4 #[.val (.ref a0), .val (.int (0 : Int32))] [(.ref a0), (.int (0 : Int32))])) rfl rfl (hb hby d5_4)
  refine go st1 ?_
  show Run _ _ _ _ _ _ _ T1 (mkF m 7 #[.val (.ref a0), .val (.int (0 : Int32))] [(.int (1 : Int32)), (.int (0 : Int32))])
  refine go (T' := T1) (f' := (mkF m 10 #[.val (.ref a0), .val (.int (0 : Int32))] [])) (by intro t k; exact XS.icmpNo X1.here hx rfl (hb hby d5_7) rfl (tlt (by decide : (0 : Int32) < (1 : Int32))).2.1 k) ?_
  refine go (T' := T1) (f' := (mkF m 11 #[.val (.ref a0), .val (.int (0 : Int32))] [(.ref a0)])) (by intro t k; exact XS.aloadN X1.here hx rfl (hb hby d5_10) rfl rfl k) ?_
  obtain ⟨T2, X2, e2, st2⟩ := getF X1 hx hZ hown (host := "") (Or.inl (tw hw 15 rfl)) Via.refl e1 Fp (g := (mkF m 11 #[.val (.ref a0), .val (.int (0 : Int32))] [(.ref a0)])) rfl rfl (hb hby d5_11)
  refine go st2 ?_
  show Run _ _ _ _ _ _ _ T2 (mkF m 14 #[.val (.ref a0), .val (.int (0 : Int32))] [(.ref bp)])
  refine go (T' := T2) (f' := (mkF m 15 #[.val (.ref a0), .val (.int (0 : Int32))] [(.ref a0), (.ref bp)])) (by intro t k; exact XS.aloadN X2.here hx rfl (hb hby d5_14) rfl rfl k) ?_
  obtain ⟨T3, X3, e3, st3⟩ := getF X2 hx hZ hown (host := "") (Or.inl (tw hw 10 rfl)) Via.refl e2 Fh (g := (mkF m 15 #[.val (.ref a0), .val (.int (0 : Int32))] [(.ref a0), (.ref bp)])) rfl rfl (hb hby d5_15)
  refine go st3 ?_
  show Run _ _ _ _ _ _ _ T3 (mkF m 18 #[.val (.ref a0), .val (.int (0 : Int32))] [(.ref bh), (.ref bp)])
  refine go (T' := T3) (f' := (mkF m 19 #[.val (.ref a0), .val (.int (0 : Int32))] [(.int (0 : Int32)), (.ref bh), (.ref bp)])) (by intro t k; exact XS.iloadN X3.here hx rfl (hb hby d5_18) rfl k) ?_
  refine go (T' := T3) (f' := (mkF m 20 #[.val (.ref a0), .val (.int (0 : Int32))] [(.int (1 : Int32)), (.ref bp)])) (by intro t k; exact ldI X3 hx hZ e3 Ah (j := (0 : Int32)) (v := (.int (1 : Int32))) (by decide) rfl (g := (mkF m 19 #[.val (.ref a0), .val (.int (0 : Int32))] [(.int (0 : Int32)), (.ref bh), (.ref bp)])) rfl rfl (hb hby d5_19) _ k) ?_
  refine go (T' := T3) (f' := (mkF m 21 #[.val (.ref a0), .val (.int (0 : Int32))] [(.int (-1 : Int32)), (.int (1 : Int32)), (.ref bp)])) (by intro t k; exact XS.iconst X3.here hx rfl (hb hby d5_20) k) ?_
  obtain ⟨cl4, Ar4, hin4⟩ := Ary.st (j := (1 : Int32)) Ap (by decide) (by show (1 : Int32).toNatClampNeg < 2; decide)
  obtain ⟨T4, h4, X4, e4, W4, st4⟩ := stI X3 hx hZ e3 Ar4 (j := (1 : Int32)) hin4 (g := (mkF m 21 #[.val (.ref a0), .val (.int (0 : Int32))] [(.int (-1 : Int32)), (.int (1 : Int32)), (.ref bp)])) rfl rfl (hb hby d5_21)
  have K4 : Keep h0 h4 [bp] := Keep.of_wr W4
  have V4 : Ary Z h4 bp .int [(.int (-2 : Int32)), (.int (-1 : Int32))] := Ary.set Ap W4 rfl
  have N4 := Fr.snoc X4 N0 gp
  have E4_a0 := Exa.keep E K4
  have F4_a0_heap := Fld.keep Fh K4 (ninS n0p nin0)
  have F4_a0_priorities := Fld.keep Fd K4 (ninS n0p nin0)
  have F4_a0_places := Fld.keep Fp K4 (ninS n0p nin0)
  have F4_a0_size := Fld.keep Fs K4 (ninS n0p nin0)
  have F4_a0_taken := Fld.keep Ft K4 (ninS n0p nin0)
  have A4_bh := Ary.keep Ah K4 (ninS nhp nin0)
  have A4_bd := Ary.keep Ad K4 (ninS ndp nin0)
  have Z4 : n0 ≤ h4.size := Nat.le_trans Z0 K4.1
  have KK4 : Keep h0 h4 [a0, bh, bd, bp] := (Keep.refl _ _).trans K4 (allS (Or.inl (List.mem_of_getElem? (i := 3) rfl)) all0)
  refine go st4 ?_
  show Run _ _ _ _ _ _ _ T4 (mkF m 22 #[.val (.ref a0), .val (.int (0 : Int32))] [])
  refine go (T' := T4) (f' := (mkF m 25 #[.val (.ref a0), .val (.int (1 : Int32))] [])) (by intro t k; exact XS.iinc X4.here hx rfl (hb hby d5_22) rfl (l' := #[.val (.ref a0), .val (.int (1 : Int32))]) rfl k) ?_
  refine go (T' := T4) (f' := (mkF m 2 #[.val (.ref a0), .val (.int (1 : Int32))] [])) (by intro t k; exact XS.goto X4.here hx rfl (pc0 := 25) (pc' := 2) rfl (hb hby d5_25) (by decide) (by decide) k) ?_
  refine go (T' := T4) (f' := (mkF m 3 #[.val (.ref a0), .val (.int (1 : Int32))] [(.int (1 : Int32))])) (by intro t k; exact XS.iloadN X4.here hx rfl (hb hby d5_2) rfl k) ?_
  refine go (T' := T4) (f' := (mkF m 4 #[.val (.ref a0), .val (.int (1 : Int32))] [(.ref a0), (.int (1 : Int32))])) (by intro t k; exact XS.aloadN X4.here hx rfl (hb hby d5_3) rfl rfl k) ?_
  obtain ⟨T5, X5, e5, st5⟩ := getF X4 hx hZ hown (host := "") (Or.inl (tw hw 30 rfl)) Via.refl e4 F4_a0_size (g := (mkF m 4 #[.val (.ref a0), .val (.int (1 : Int32))] [(.ref a0), (.int (1 : Int32))])) rfl rfl (hb hby d5_4)
  refine go st5 ?_
  show Run _ _ _ _ _ _ _ T5 (mkF m 7 #[.val (.ref a0), .val (.int (1 : Int32))] [(.int (1 : Int32)), (.int (1 : Int32))])
  refine go (T' := T5) (f' := (mkF m 28 #[.val (.ref a0), .val (.int (1 : Int32))] [])) (by intro t k; exact XS.icmpYes X5.here hx rfl (pc0 := 7) (pc' := 28) rfl (hb hby d5_7) rfl (flt (by decide : ¬ ((1 : Int32) < (1 : Int32)))).2.1 (by decide) (by decide) k) ?_
  refine go (T' := T5) (f' := (mkF m 29 #[.val (.ref a0), .val (.int (1 : Int32))] [(.ref a0)])) (by intro t k; exact XS.aloadN X5.here hx rfl (hb hby d5_28) rfl rfl k) ?_
  obtain ⟨T6, X6, e6, st6⟩ := getF X5 hx hZ hown (host := "") (Or.inl (tw hw 10 rfl)) Via.refl e5 F4_a0_heap (g := (mkF m 29 #[.val (.ref a0), .val (.int (1 : Int32))] [(.ref a0)])) rfl rfl (hb hby d5_29)
  refine go st6 ?_
  show Run _ _ _ _ _ _ _ T6 (mkF m 32 #[.val (.ref a0), .val (.int (1 : Int32))] [(.ref bh)])
  refine go (T' := T6) (f' := (mkF m 33 #[.val (.ref a0), .val (.int (1 : Int32))] [(.int (2 : Int32))])) (by intro t k; exact alen X6 hx hZ e6 A4_bh (z := (2 : Int32)) rfl (g := (mkF m 32 #[.val (.ref a0), .val (.int (1 : Int32))] [(.ref bh)])) rfl rfl (hb hby d5_32) _ k) ?_
  refine go (T' := T6) (f' := (mkF m 34 #[.val (.ref a0), .val (.int (1 : Int32))] [(.ref a0), (.int (2 : Int32))])) (by intro t k; exact XS.aloadN X6.here hx rfl (hb hby d5_33) rfl rfl k) ?_
  obtain ⟨T7, X7, e7, st7⟩ := getF X6 hx hZ hown (host := "") (Or.inl (tw hw 32 rfl)) Via.refl e6 F4_a0_taken (g := (mkF m 34 #[.val (.ref a0), .val (.int (1 : Int32))] [(.ref a0), (.int (2 : Int32))])) rfl rfl (hb hby d5_34)
  refine go st7 ?_
  show Run _ _ _ _ _ _ _ T7 (mkF m 37 #[.val (.ref a0), .val (.int (1 : Int32))] [(.int (1 : Int32)), (.int (2 : Int32))])
  refine go (T' := T7) (f' := (mkF m 38 #[.val (.ref a0), .val (.int (1 : Int32))] [(.int (1 : Int32))])) (by intro t k; exact XS.isub X7.here hx rfl (hb hby d5_37) rfl k) ?_
  refine go (T' := T7) (f' := (mkF m 39 #[.val (.ref a0), .val (.int (1 : Int32))] [])) (by intro t k; exact XS.istoreN X7.here hx rfl (hb hby d5_38) rfl (l' := #[.val (.ref a0), .val (.int (1 : Int32))]) rfl k) ?_
  refine go (T' := T7) (f' := (mkF m 40 #[.val (.ref a0), .val (.int (1 : Int32))] [(.int (1 : Int32))])) (by intro t k; exact XS.iloadN X7.here hx rfl (hb hby d5_39) rfl k) ?_
  refine go (T' := T7) (f' := (mkF m 41 #[.val (.ref a0), .val (.int (1 : Int32))] [(.ref a0), (.int (1 : Int32))])) (by intro t k; exact XS.aloadN X7.here hx rfl (hb hby d5_40) rfl rfl k) ?_
  obtain ⟨T8, X8, e8, st8⟩ := getF X7 hx hZ hown (host := "") (Or.inl (tw hw 10 rfl)) Via.refl e7 F4_a0_heap (g := (mkF m 41 #[.val (.ref a0), .val (.int (1 : Int32))] [(.ref a0), (.int (1 : Int32))])) rfl rfl (hb hby d5_41)
  refine go st8 ?_
  show Run _ _ _ _ _ _ _ T8 (mkF m 44 #[.val (.ref a0), .val (.int (1 : Int32))] [(.ref bh), (.int (1 : Int32))])
  refine go (T' := T8) (f' := (mkF m 45 #[.val (.ref a0), .val (.int (1 : Int32))] [(.int (2 : Int32)), (.int (1 : Int32))])) (by intro t k; exact alen X8 hx hZ e8 A4_bh (z := (2 : Int32)) rfl (g := (mkF m 44 #[.val (.ref a0), .val (.int (1 : Int32))] [(.ref bh), (.int (1 : Int32))])) rfl rfl (hb hby d5_44) _ k) ?_
  refine go (T' := T8) (f' := (mkF m 48 #[.val (.ref a0), .val (.int (1 : Int32))] [])) (by intro t k; exact XS.icmpNo X8.here hx rfl (hb hby d5_45) rfl (tlt (by decide : (1 : Int32) < (2 : Int32))).2.1 k) ?_
  refine go (T' := T8) (f' := (mkF m 49 #[.val (.ref a0), .val (.int (1 : Int32))] [(.ref a0)])) (by intro t k; exact XS.aloadN X8.here hx rfl (hb hby d5_48) rfl rfl k) ?_
  obtain ⟨T9, X9, e9, st9⟩ := getF X8 hx hZ hown (host := "") (Or.inl (tw hw 15 rfl)) Via.refl e8 F4_a0_places (g := (mkF m 49 #[.val (.ref a0), .val (.int (1 : Int32))] [(.ref a0)])) rfl rfl (hb hby d5_49)
  refine go st9 ?_
  show Run _ _ _ _ _ _ _ T9 (mkF m 52 #[.val (.ref a0), .val (.int (1 : Int32))] [(.ref bp)])
  refine go (T' := T9) (f' := (mkF m 53 #[.val (.ref a0), .val (.int (1 : Int32))] [(.ref a0), (.ref bp)])) (by intro t k; exact XS.aloadN X9.here hx rfl (hb hby d5_52) rfl rfl k) ?_
  obtain ⟨T10, X10, e10, st10⟩ := getF X9 hx hZ hown (host := "") (Or.inl (tw hw 10 rfl)) Via.refl e9 F4_a0_heap (g := (mkF m 53 #[.val (.ref a0), .val (.int (1 : Int32))] [(.ref a0), (.ref bp)])) rfl rfl (hb hby d5_53)
  refine go st10 ?_
  show Run _ _ _ _ _ _ _ T10 (mkF m 56 #[.val (.ref a0), .val (.int (1 : Int32))] [(.ref bh), (.ref bp)])
  refine go (T' := T10) (f' := (mkF m 57 #[.val (.ref a0), .val (.int (1 : Int32))] [(.int (1 : Int32)), (.ref bh), (.ref bp)])) (by intro t k; exact XS.iloadN X10.here hx rfl (hb hby d5_56) rfl k) ?_
  refine go (T' := T10) (f' := (mkF m 58 #[.val (.ref a0), .val (.int (1 : Int32))] [(.int (0 : Int32)), (.ref bp)])) (by intro t k; exact ldI X10 hx hZ e10 A4_bh (j := (1 : Int32)) (v := (.int (0 : Int32))) (by decide) rfl (g := (mkF m 57 #[.val (.ref a0), .val (.int (1 : Int32))] [(.int (1 : Int32)), (.ref bh), (.ref bp)])) rfl rfl (hb hby d5_57) _ k) ?_
  refine go (T' := T10) (f' := (mkF m 59 #[.val (.ref a0), .val (.int (1 : Int32))] [(.int (-1 : Int32)), (.int (0 : Int32)), (.ref bp)])) (by intro t k; exact XS.iconst X10.here hx rfl (hb hby d5_58) k) ?_
  obtain ⟨cl11, Ar11, hin11⟩ := Ary.st (j := (0 : Int32)) V4 (by decide) (by show (0 : Int32).toNatClampNeg < 2; decide)
  obtain ⟨T11, h11, X11, e11, W11, st11⟩ := stI X10 hx hZ e10 Ar11 (j := (0 : Int32)) hin11 (g := (mkF m 59 #[.val (.ref a0), .val (.int (1 : Int32))] [(.int (-1 : Int32)), (.int (0 : Int32)), (.ref bp)])) rfl rfl (hb hby d5_59)
  have K11 : Keep h4 h11 [bp] := Keep.of_wr W11
  have V11 : Ary Z h11 bp .int [(.int (-1 : Int32)), (.int (-1 : Int32))] := Ary.set V4 W11 rfl
  have N11 := Fr.snoc X11 N4 gp
  have E11_a0 := Exa.keep E4_a0 K11
  have F11_a0_heap := Fld.keep F4_a0_heap K11 (ninS n0p nin0)
  have F11_a0_priorities := Fld.keep F4_a0_priorities K11 (ninS n0p nin0)
  have F11_a0_places := Fld.keep F4_a0_places K11 (ninS n0p nin0)
  have F11_a0_size := Fld.keep F4_a0_size K11 (ninS n0p nin0)
  have F11_a0_taken := Fld.keep F4_a0_taken K11 (ninS n0p nin0)
  have A11_bh := Ary.keep A4_bh K11 (ninS nhp nin0)
  have A11_bd := Ary.keep A4_bd K11 (ninS ndp nin0)
  have Z11 : n0 ≤ h11.size := Nat.le_trans Z4 K11.1
  have KK11 : Keep h0 h11 [a0, bh, bd, bp] := KK4.trans K11 (allS (Or.inl (List.mem_of_getElem? (i := 3) rfl)) all0)
  refine go st11 ?_
  show Run _ _ _ _ _ _ _ T11 (mkF m 60 #[.val (.ref a0), .val (.int (1 : Int32))] [])
  refine go (T' := T11) (f' := (mkF m 63 #[.val (.ref a0), .val (.int (2 : Int32))] [])) (by intro t k; exact XS.iinc X11.here hx rfl (hb hby d5_60) rfl (l' := #[.val (.ref a0), .val (.int (2 : Int32))]) rfl k) ?_
  refine go (T' := T11) (f' := (mkF m 39 #[.val (.ref a0), .val (.int (2 : Int32))] [])) (by intro t k; exact XS.goto X11.here hx rfl (pc0 := 63) (pc' := 39) rfl (hb hby d5_63) (by decide) (by decide) k) ?_
  refine go (T' := T11) (f' := (mkF m 40 #[.val (.ref a0), .val (.int (2 : Int32))] [(.int (2 : Int32))])) (by intro t k; exact XS.iloadN X11.here hx rfl (hb hby d5_39) rfl k) ?_
  refine go (T' := T11) (f' := (mkF m 41 #[.val (.ref a0), .val (.int (2 : Int32))] [(.ref a0), (.int (2 : Int32))])) (by intro t k; exact XS.aloadN X11.here hx rfl (hb hby d5_40) rfl rfl k) ?_
  obtain ⟨T12, X12, e12, st12⟩ := getF X11 hx hZ hown (host := "") (Or.inl (tw hw 10 rfl)) Via.refl e11 F11_a0_heap (g := (mkF m 41 #[.val (.ref a0), .val (.int (2 : Int32))] [(.ref a0), (.int (2 : Int32))])) rfl rfl (hb hby d5_41)
  refine go st12 ?_
  show Run _ _ _ _ _ _ _ T12 (mkF m 44 #[.val (.ref a0), .val (.int (2 : Int32))] [(.ref bh), (.int (2 : Int32))])
  refine go (T' := T12) (f' := (mkF m 45 #[.val (.ref a0), .val (.int (2 : Int32))] [(.int (2 : Int32)), (.int (2 : Int32))])) (by intro t k; exact alen X12 hx hZ e12 A11_bh (z := (2 : Int32)) rfl (g := (mkF m 44 #[.val (.ref a0), .val (.int (2 : Int32))] [(.ref bh), (.int (2 : Int32))])) rfl rfl (hb hby d5_44) _ k) ?_
  refine go (T' := T12) (f' := (mkF m 66 #[.val (.ref a0), .val (.int (2 : Int32))] [])) (by intro t k; exact XS.icmpYes X12.here hx rfl (pc0 := 45) (pc' := 66) rfl (hb hby d5_45) rfl (flt (by decide : ¬ ((2 : Int32) < (2 : Int32)))).2.1 (by decide) (by decide) k) ?_
  refine go (T' := T12) (f' := (mkF m 67 #[.val (.ref a0), .val (.int (2 : Int32))] [(.ref a0)])) (by intro t k; exact XS.aloadN X12.here hx rfl (hb hby d5_66) rfl rfl k) ?_
  refine go (T' := T12) (f' := (mkF m 68 #[.val (.ref a0), .val (.int (2 : Int32))] [(.int (0 : Int32)), (.ref a0)])) (by intro t k; exact XS.iconst X12.here hx rfl (hb hby d5_67) k) ?_
  obtain ⟨T13, h13, X13, e13, W13, st13⟩ := putF X12 hx hZ hown (host := "") (Or.inl (tw hw 30 rfl)) Via.refl e12 F11_a0_size E11_a0 (Or.inl (tw hw 31 rfl)) (tw hw 1 rfl) (ty := .int) (by decide) rfl rfl (g := (mkF m 68 #[.val (.ref a0), .val (.int (2 : Int32))] [(.int (0 : Int32)), (.ref a0)])) rfl rfl (hb hby d5_68)
  have K13 : Keep h11 h13 [a0] := Keep.of_wr W13
  have F13_a0_heap := Fld.other W13 F11_a0_heap (Or.inr (slot_ne (Or.inr (tw hw 11 rfl)) (Or.inl (tw hw 31 rfl)) (by decide) (t := (.array .int)) (t' := .int) (by decide) (by decide)))
  have F13_a0_priorities := Fld.other W13 F11_a0_priorities (Or.inr (slot_ne (Or.inr (tw hw 14 rfl)) (Or.inl (tw hw 31 rfl)) (by decide) (t := (.array .double)) (t' := .int) (by decide) (by decide)))
  have F13_a0_places := Fld.other W13 F11_a0_places (Or.inr (slot_ne (Or.inr (tw hw 16 rfl)) (Or.inl (tw hw 31 rfl)) (by decide) (t := (.array .int)) (t' := .int) (by decide) (by decide)))
  have F13_a0_size : Fld Z h13 a0 "com/example/wayshard/wayshard/service/VertexQueue" "size" "I" (.int (0 : Int32)) := F11_a0_size.same W13
  have F13_a0_taken := Fld.other W13 F11_a0_taken (Or.inr (slot_ne (Or.inl (tw hw 33 rfl)) (Or.inl (tw hw 31 rfl)) (by decide) (t := .int) (t' := .int) (by decide) (by decide)))
  have N13 := Fr.snoc X13 N11 g0
  have E13_a0 := Exa.keep E11_a0 K13
  have A13_bh := Ary.keep A11_bh K13 (ninS (Ne.symm n0h) nin0)
  have A13_bd := Ary.keep A11_bd K13 (ninS (Ne.symm n0d) nin0)
  have A13_bp := Ary.keep V11 K13 (ninS (Ne.symm n0p) nin0)
  have Z13 : n0 ≤ h13.size := Nat.le_trans Z11 K13.1
  have KK13 : Keep h0 h13 [a0, bh, bd, bp] := KK11.trans K13 (allS (Or.inl (List.mem_of_getElem? (i := 0) rfl)) all0)
  refine go st13 ?_
  show Run _ _ _ _ _ _ _ T13 (mkF m 71 #[.val (.ref a0), .val (.int (2 : Int32))] [])
  refine go (T' := T13) (f' := (mkF m 72 #[.val (.ref a0), .val (.int (2 : Int32))] [(.ref a0)])) (by intro t k; exact XS.aloadN X13.here hx rfl (hb hby d5_71) rfl rfl k) ?_
  refine go (T' := T13) (f' := (mkF m 73 #[.val (.ref a0), .val (.int (2 : Int32))] [(.int (0 : Int32)), (.ref a0)])) (by intro t k; exact XS.iconst X13.here hx rfl (hb hby d5_72) k) ?_
  obtain ⟨T14, h14, X14, e14, W14, st14⟩ := putF X13 hx hZ hown (host := "") (Or.inl (tw hw 32 rfl)) Via.refl e13 F13_a0_taken E13_a0 (Or.inl (tw hw 33 rfl)) (tw hw 1 rfl) (ty := .int) (by decide) rfl rfl (g := (mkF m 73 #[.val (.ref a0), .val (.int (2 : Int32))] [(.int (0 : Int32)), (.ref a0)])) rfl rfl (hb hby d5_73)
  have K14 : Keep h13 h14 [a0] := Keep.of_wr W14
  have F14_a0_heap := Fld.other W14 F13_a0_heap (Or.inr (slot_ne (Or.inr (tw hw 11 rfl)) (Or.inl (tw hw 33 rfl)) (by decide) (t := (.array .int)) (t' := .int) (by decide) (by decide)))
  have F14_a0_priorities := Fld.other W14 F13_a0_priorities (Or.inr (slot_ne (Or.inr (tw hw 14 rfl)) (Or.inl (tw hw 33 rfl)) (by decide) (t := (.array .double)) (t' := .int) (by decide) (by decide)))
  have F14_a0_places := Fld.other W14 F13_a0_places (Or.inr (slot_ne (Or.inr (tw hw 16 rfl)) (Or.inl (tw hw 33 rfl)) (by decide) (t := (.array .int)) (t' := .int) (by decide) (by decide)))
  have F14_a0_size := Fld.other W14 F13_a0_size (Or.inr (slot_ne (Or.inl (tw hw 31 rfl)) (Or.inl (tw hw 33 rfl)) (by decide) (t := .int) (t' := .int) (by decide) (by decide)))
  have F14_a0_taken : Fld Z h14 a0 "com/example/wayshard/wayshard/service/VertexQueue" "taken" "I" (.int (0 : Int32)) := F13_a0_taken.same W14
  have N14 := Fr.snoc X14 N13 g0
  have E14_a0 := Exa.keep E13_a0 K14
  have A14_bh := Ary.keep A13_bh K14 (ninS (Ne.symm n0h) nin0)
  have A14_bd := Ary.keep A13_bd K14 (ninS (Ne.symm n0d) nin0)
  have A14_bp := Ary.keep A13_bp K14 (ninS (Ne.symm n0p) nin0)
  have Z14 : n0 ≤ h14.size := Nat.le_trans Z13 K14.1
  have KK14 : Keep h0 h14 [a0, bh, bd, bp] := KK13.trans K14 (allS (Or.inl (List.mem_of_getElem? (i := 0) rfl)) all0)
  refine go st14 ?_
  show Run _ _ _ _ _ _ _ T14 (mkF m 76 #[.val (.ref a0), .val (.int (2 : Int32))] [])
  refine retV X14 hx Bd.returns (hb hby d5_76) hlk (by decide) (by decide) ?_
  show Q5t44 Z a0 bh bd bp x0 x1 h0 n0 _ T14.heap _
  rw [e14]
  exact ⟨rfl, N14, KK14, ⟨E14_a0, F14_a0_heap, F14_a0_priorities, F14_a0_places, F14_a0_size, F14_a0_taken, A14_bh, A14_bd, A14_bp, g0, gh, gd, gp, n0h, n0d, n0p, nhd, nhp, ndp⟩⟩
theorem ef_11t45 (m : MethodId) (x0 : Addr) : entryFrame m #[(.ref x0)] 2 = mkF m 0 #[.val (.ref x0), .unset] [] := by first | (simp [entryFrame, mkF, argsToLocals, Value.category]; done) | rfl
def Q11t45 (Z : State) (a0 : Addr) (bh bd bp : Addr) (x0 x1 : UInt64) (h0 : Heap) (n0 : Nat) (v : Option Value) (h : Heap) (L : List Loc) : Prop := v = some (.int (1 : Int32)) ∧ Fr n0 L ∧ Keep h0 h [a0, bh, bd, bp] ∧ own_st Z n0 h a0 bh bd bp (1 : Int32) (0 : Int32) (-2 : Int32) (-2 : Int32) (0 : Int32) (2 : Int32) x0 x1
set_option maxRecDepth 65536 in
set_option maxHeartbeats 40000000 in
theorem rm11t45 (l : Launch) (Z : State) (aw : Array Value) (hw : ∀ d ∈ tables_1, d.before aw Z = true) (ws : List Jvm.Cond) (a0 : Addr) (bh bd bp : Addr) (x0 x1 : UInt64) (h0 : Heap) (n0 : Nat) (Z0 : n0 ≤ h0.size) (St : own_st Z n0 h0 a0 bh bd bp (1 : Int32) (0 : Int32) (-2 : Int32) (0 : Int32) (1 : Int32) (1 : Int32) x0 x1) :
    MetFree l mpoll (head1 (Jvm.Cond.code mpoll prog_64_method_6_code 2 (some .int) :: ws) rO0) (fun a U => a = #[(.ref a0)] ∧ Z.Warmed39 U.vm ∧ U.heap = h0) (fun _ _ _ _ _ => True) (fun _ U o U' => ∃ v L, o = .returned v ∧ Q11t45 Z a0 bh bd bp x0 x1 h0 n0 v U'.heap L ∧ FrameEnd U o U' L rO0.cells rO0.slots) := by
  refine MetFree.of_bodySF (plainFor_of_name pn_1) hisR ?_
  intro p e s m args below meth c s₁ Bd hml0 hP hK
  obtain ⟨rfl, hZ, hh⟩ := hP
  have hx := Bd.exec
  have hby := Bd.bytes
  have hml : c.maxLocals = 2 := hml0
  have hown : s.vm.findClass "com/example/wayshard/wayshard/service/VertexQueue" = some m.cls := findClass_of_methodNamed Bd.named
  have hnm := (name_of_methodNamed Bd.named Bd.method).1
  have hlk : meth.locks = false := BodyLoose.notSynchronized Bd
  have X0 : Stand p l e rO0 s m #[(.ref a0)] below meth c s₁ [] 0 0 := Stand.of_body Bd
  have e0 : s₁.heap = h0 := by rw [← hh, Bd.state]; rfl
  have N0 := Fr.nil n0
  show Run p e s below (Q11t45 Z a0 bh bd bp x0 x1 h0 n0) rO0.cells rO0.slots s₁ (entryFrame m #[(.ref a0)] 2)
  rw [ef_11t45]
  obtain ⟨E, Fh, Fd, Fp, Fs, Ft, Ah, Ad, Ap, g0, gh, gd, gp, n0h, n0d, n0p, nhd, nhp, ndp⟩ := St
  show Run _ _ _ _ _ _ _ s₁ (mkF m 0 #[.val (.ref a0), .unset] [])
  refine go (T' := s₁) (f' := (mkF m 1 #[.val (.ref a0), .unset] [(.ref a0)])) (by intro t k; exact XS.aloadN X0.here hx rfl (hb hby d11_0) rfl rfl k) ?_
  obtain ⟨T1, X1, e1, st1⟩ := getF X0 hx hZ hown (host := "") (Or.inl (tw hw 30 rfl)) Via.refl e0 Fs (g := (mkF m 1 #[.val (.ref a0), .unset] [(.ref a0)])) rfl rfl (hb hby d11_1)
  refine go st1 ?_
  show Run _ _ _ _ _ _ _ T1 (mkF m 4 #[.val (.ref a0), .unset] [(.int (1 : Int32))])
  refine go (T' := T1) (f' := (mkF m 15 #[.val (.ref a0), .unset] [])) (by intro t k; exact XS.ifYes X1.here hx rfl (pc0 := 4) (pc' := 15) rfl (hb hby d11_4) rfl ((if0 _ _).trans (feq (by decide : ¬ ((1 : Int32) = (0 : Int32)))).2) (by decide) (by decide) k) ?_
  refine go (T' := T1) (f' := (mkF m 16 #[.val (.ref a0), .unset] [(.ref a0)])) (by intro t k; exact XS.aloadN X1.here hx rfl (hb hby d11_15) rfl rfl k) ?_
  obtain ⟨T2, X2, e2, st2⟩ := getF X1 hx hZ hown (host := "") (Or.inl (tw hw 10 rfl)) Via.refl e1 Fh (g := (mkF m 16 #[.val (.ref a0), .unset] [(.ref a0)])) rfl rfl (hb hby d11_16)
  refine go st2 ?_
  show Run _ _ _ _ _ _ _ T2 (mkF m 19 #[.val (.ref a0), .unset] [(.ref bh)])
  refine go (T' := T2) (f' := (mkF m 20 #[.val (.ref a0), .unset] [(.int (0 : Int32)), (.ref bh)])) (by intro t k; exact XS.iconst X2.here hx rfl (hb hby d11_19) k) ?_
  refine go (T' := T2) (f' := (mkF m 21 #[.val (.ref a0), .unset] [(.int (1 : Int32))])) (by intro t k; exact ldI X2 hx hZ e2 Ah (j := (0 : Int32)) (v := (.int (1 : Int32))) (by decide) rfl (g := (mkF m 20 #[.val (.ref a0), .unset] [(.int (0 : Int32)), (.ref bh)])) rfl rfl (hb hby d11_20) _ k) ?_
  refine go (T' := T2) (f' := (mkF m 22 #[.val (.ref a0), .val (.int (1 : Int32))] [])) (by intro t k; exact XS.istoreN X2.here hx rfl (hb hby d11_21) rfl (l' := #[.val (.ref a0), .val (.int (1 : Int32))]) rfl k) ?_
  refine go (T' := T2) (f' := (mkF m 23 #[.val (.ref a0), .val (.int (1 : Int32))] [(.ref a0)])) (by intro t k; exact XS.aloadN X2.here hx rfl (hb hby d11_22) rfl rfl k) ?_
  refine go (T' := T2) (f' := (mkF m 24 #[.val (.ref a0), .val (.int (1 : Int32))] [(.ref a0), (.ref a0)])) (by intro t k; exact XS.dup X2.here hx rfl (hb hby d11_23) rfl rfl k) ?_
  obtain ⟨T3, X3, e3, st3⟩ := getF X2 hx hZ hown (host := "") (Or.inl (tw hw 30 rfl)) Via.refl e2 Fs (g := (mkF m 24 #[.val (.ref a0), .val (.int (1 : Int32))] [(.ref a0), (.ref a0)])) rfl rfl (hb hby d11_24)
  refine go st3 ?_
  show Run _ _ _ _ _ _ _ T3 (mkF m 27 #[.val (.ref a0), .val (.int (1 : Int32))] [(.int (1 : Int32)), (.ref a0)])
  refine go (T' := T3) (f' := (mkF m 28 #[.val (.ref a0), .val (.int (1 : Int32))] [(.int (1 : Int32)), (.int (1 : Int32)), (.ref a0)])) (by intro t k; exact XS.iconst X3.here hx rfl (hb hby d11_27) k) ?_
  refine go (T' := T3) (f' := (mkF m 29 #[.val (.ref a0), .val (.int (1 : Int32))] [(.int (0 : Int32)), (.ref a0)])) (by intro t k; exact XS.isub X3.here hx rfl (hb hby d11_28) rfl k) ?_
  obtain ⟨T4, h4, X4, e4, W4, st4⟩ := putF X3 hx hZ hown (host := "") (Or.inl (tw hw 30 rfl)) Via.refl e3 Fs E (Or.inl (tw hw 31 rfl)) (tw hw 1 rfl) (ty := .int) (by decide) rfl rfl (g := (mkF m 29 #[.val (.ref a0), .val (.int (1 : Int32))] [(.int (0 : Int32)), (.ref a0)])) rfl rfl (hb hby d11_29)
  have K4 : Keep h0 h4 [a0] := Keep.of_wr W4
  have F4_a0_heap := Fld.other W4 Fh (Or.inr (slot_ne (Or.inr (tw hw 11 rfl)) (Or.inl (tw hw 31 rfl)) (by decide) (t := (.array .int)) (t' := .int) (by decide) (by decide)))
  have F4_a0_priorities := Fld.other W4 Fd (Or.inr (slot_ne (Or.inr (tw hw 14 rfl)) (Or.inl (tw hw 31 rfl)) (by decide) (t := (.array .double)) (t' := .int) (by decide) (by decide)))
  have F4_a0_places := Fld.other W4 Fp (Or.inr (slot_ne (Or.inr (tw hw 16 rfl)) (Or.inl (tw hw 31 rfl)) (by decide) (t := (.array .int)) (t' := .int) (by decide) (by decide)))
  have F4_a0_size : Fld Z h4 a0 "com/example/wayshard/wayshard/service/VertexQueue" "size" "I" (.int (0 : Int32)) := Fs.same W4
  have F4_a0_taken := Fld.other W4 Ft (Or.inr (slot_ne (Or.inl (tw hw 33 rfl)) (Or.inl (tw hw 31 rfl)) (by decide) (t := .int) (t' := .int) (by decide) (by decide)))
  have N4 := Fr.snoc X4 N0 g0
  have E4_a0 := Exa.keep E K4
  have A4_bh := Ary.keep Ah K4 (ninS (Ne.symm n0h) nin0)
  have A4_bd := Ary.keep Ad K4 (ninS (Ne.symm n0d) nin0)
  have A4_bp := Ary.keep Ap K4 (ninS (Ne.symm n0p) nin0)
  have Z4 : n0 ≤ h4.size := Nat.le_trans Z0 K4.1
  have KK4 : Keep h0 h4 [a0, bh, bd, bp] := (Keep.refl _ _).trans K4 (allS (Or.inl (List.mem_of_getElem? (i := 0) rfl)) all0)
  refine go st4 ?_
  show Run _ _ _ _ _ _ _ T4 (mkF m 32 #[.val (.ref a0), .val (.int (1 : Int32))] [])
  refine go (T' := T4) (f' := (mkF m 33 #[.val (.ref a0), .val (.int (1 : Int32))] [(.ref a0)])) (by intro t k; exact XS.aloadN X4.here hx rfl (hb hby d11_32) rfl rfl k) ?_
  obtain ⟨T5, X5, e5, st5⟩ := getF X4 hx hZ hown (host := "") (Or.inl (tw hw 30 rfl)) Via.refl e4 F4_a0_size (g := (mkF m 33 #[.val (.ref a0), .val (.int (1 : Int32))] [(.ref a0)])) rfl rfl (hb hby d11_33)
  refine go st5 ?_
  show Run _ _ _ _ _ _ _ T5 (mkF m 36 #[.val (.ref a0), .val (.int (1 : Int32))] [(.int (0 : Int32))])
  refine go (T' := T5) (f' := (mkF m 71 #[.val (.ref a0), .val (.int (1 : Int32))] [])) (by intro t k; exact XS.ifYes X5.here hx rfl (pc0 := 36) (pc' := 71) rfl (hb hby d11_36) rfl ((if0 _ _).trans (flt (by decide : ¬ ((0 : Int32) < (0 : Int32)))).2.2.2) (by decide) (by decide) k) ?_
  refine go (T' := T5) (f' := (mkF m 72 #[.val (.ref a0), .val (.int (1 : Int32))] [(.ref a0)])) (by intro t k; exact XS.aloadN X5.here hx rfl (hb hby d11_71) rfl rfl k) ?_
  refine go (T' := T5) (f' := (mkF m 73 #[.val (.ref a0), .val (.int (1 : Int32))] [(.ref a0), (.ref a0)])) (by intro t k; exact XS.dup X5.here hx rfl (hb hby d11_72) rfl rfl k) ?_
  obtain ⟨T6, X6, e6, st6⟩ := getF X5 hx hZ hown (host := "") (Or.inl (tw hw 32 rfl)) Via.refl e5 F4_a0_taken (g := (mkF m 73 #[.val (.ref a0), .val (.int (1 : Int32))] [(.ref a0), (.ref a0)])) rfl rfl (hb hby d11_73)
  refine go st6 ?_
  show Run _ _ _ _ _ _ _ T6 (mkF m 76 #[.val (.ref a0), .val (.int (1 : Int32))] [(.int (1 : Int32)), (.ref a0)])
  refine go (T' := T6) (f' := (mkF m 77 #[.val (.ref a0), .val (.int (1 : Int32))] [(.int (1 : Int32)), (.int (1 : Int32)), (.ref a0)])) (by intro t k; exact XS.iconst X6.here hx rfl (hb hby d11_76) k) ?_
  refine go (T' := T6) (f' := (mkF m 78 #[.val (.ref a0), .val (.int (1 : Int32))] [(.int (2 : Int32)), (.ref a0)])) (by intro t k; exact XS.iadd X6.here hx rfl (hb hby d11_77) rfl k) ?_
  obtain ⟨T7, h7, X7, e7, W7, st7⟩ := putF X6 hx hZ hown (host := "") (Or.inl (tw hw 32 rfl)) Via.refl e6 F4_a0_taken E4_a0 (Or.inl (tw hw 33 rfl)) (tw hw 1 rfl) (ty := .int) (by decide) rfl rfl (g := (mkF m 78 #[.val (.ref a0), .val (.int (1 : Int32))] [(.int (2 : Int32)), (.ref a0)])) rfl rfl (hb hby d11_78)
  have K7 : Keep h4 h7 [a0] := Keep.of_wr W7
  have F7_a0_heap := Fld.other W7 F4_a0_heap (Or.inr (slot_ne (Or.inr (tw hw 11 rfl)) (Or.inl (tw hw 33 rfl)) (by decide) (t := (.array .int)) (t' := .int) (by decide) (by decide)))
  have F7_a0_priorities := Fld.other W7 F4_a0_priorities (Or.inr (slot_ne (Or.inr (tw hw 14 rfl)) (Or.inl (tw hw 33 rfl)) (by decide) (t := (.array .double)) (t' := .int) (by decide) (by decide)))
  have F7_a0_places := Fld.other W7 F4_a0_places (Or.inr (slot_ne (Or.inr (tw hw 16 rfl)) (Or.inl (tw hw 33 rfl)) (by decide) (t := (.array .int)) (t' := .int) (by decide) (by decide)))
  have F7_a0_size := Fld.other W7 F4_a0_size (Or.inr (slot_ne (Or.inl (tw hw 31 rfl)) (Or.inl (tw hw 33 rfl)) (by decide) (t := .int) (t' := .int) (by decide) (by decide)))
  have F7_a0_taken : Fld Z h7 a0 "com/example/wayshard/wayshard/service/VertexQueue" "taken" "I" (.int (2 : Int32)) := F4_a0_taken.same W7
  have N7 := Fr.snoc X7 N4 g0
  have E7_a0 := Exa.keep E4_a0 K7
  have A7_bh := Ary.keep A4_bh K7 (ninS (Ne.symm n0h) nin0)
  have A7_bd := Ary.keep A4_bd K7 (ninS (Ne.symm n0d) nin0)
  have A7_bp := Ary.keep A4_bp K7 (ninS (Ne.symm n0p) nin0)
  have Z7 : n0 ≤ h7.size := Nat.le_trans Z4 K7.1
  have KK7 : Keep h0 h7 [a0, bh, bd, bp] := KK4.trans K7 (allS (Or.inl (List.mem_of_getElem? (i := 0) rfl)) all0)
  refine go st7 ?_
  show Run _ _ _ _ _ _ _ T7 (mkF m 81 #[.val (.ref a0), .val (.int (1 : Int32))] [])
  refine go (T' := T7) (f' := (mkF m 82 #[.val (.ref a0), .val (.int (1 : Int32))] [(.ref a0)])) (by intro t k; exact XS.aloadN X7.here hx rfl (hb hby d11_81) rfl rfl k) ?_
  obtain ⟨T8, X8, e8, st8⟩ := getF X7 hx hZ hown (host := "") (Or.inl (tw hw 10 rfl)) Via.refl e7 F7_a0_heap (g := (mkF m 82 #[.val (.ref a0), .val (.int (1 : Int32))] [(.ref a0)])) rfl rfl (hb hby d11_82)
  refine go st8 ?_
  show Run _ _ _ _ _ _ _ T8 (mkF m 85 #[.val (.ref a0), .val (.int (1 : Int32))] [(.ref bh)])
  refine go (T' := T8) (f' := (mkF m 86 #[.val (.ref a0), .val (.int (1 : Int32))] [(.ref a0), (.ref bh)])) (by intro t k; exact XS.aloadN X8.here hx rfl (hb hby d11_85) rfl rfl k) ?_
  obtain ⟨T9, X9, e9, st9⟩ := getF X8 hx hZ hown (host := "") (Or.inl (tw hw 10 rfl)) Via.refl e8 F7_a0_heap (g := (mkF m 86 #[.val (.ref a0), .val (.int (1 : Int32))] [(.ref a0), (.ref bh)])) rfl rfl (hb hby d11_86)
  refine go st9 ?_
  show Run _ _ _ _ _ _ _ T9 (mkF m 89 #[.val (.ref a0), .val (.int (1 : Int32))] [(.ref bh), (.ref bh)])
  refine go (T' := T9) (f' := (mkF m 90 #[.val (.ref a0), .val (.int (1 : Int32))] [(.int (2 : Int32)), (.ref bh)])) (by intro t k; exact alen X9 hx hZ e9 A7_bh (z := (2 : Int32)) rfl (g := (mkF m 89 #[.val (.ref a0), .val (.int (1 : Int32))] [(.ref bh), (.ref bh)])) rfl rfl (hb hby d11_89) _ k) ?_
  refine go (T' := T9) (f' := (mkF m 91 #[.val (.ref a0), .val (.int (1 : Int32))] [(.ref a0), (.int (2 : Int32)), (.ref bh)])) (by intro t k; exact XS.aloadN X9.here hx rfl (hb hby d11_90) rfl rfl k) ?_
  obtain ⟨T10, X10, e10, st10⟩ := getF X9 hx hZ hown (host := "") (Or.inl (tw hw 32 rfl)) Via.refl e9 F7_a0_taken (g := (mkF m 91 #[.val (.ref a0), .val (.int (1 : Int32))] [(.ref a0), (.int (2 : Int32)), (.ref bh)])) rfl rfl (hb hby d11_91)
  refine go st10 ?_
  show Run _ _ _ _ _ _ _ T10 (mkF m 94 #[.val (.ref a0), .val (.int (1 : Int32))] [(.int (2 : Int32)), (.int (2 : Int32)), (.ref bh)])
  refine go (T' := T10) (f' := (mkF m 95 #[.val (.ref a0), .val (.int (1 : Int32))] [(.int (0 : Int32)), (.ref bh)])) (by intro t k; exact XS.isub X10.here hx rfl (hb hby d11_94) rfl k) ?_
  refine go (T' := T10) (f' := (mkF m 96 #[.val (.ref a0), .val (.int (1 : Int32))] [(.int (1 : Int32)), (.int (0 : Int32)), (.ref bh)])) (by intro t k; exact XS.iloadN X10.here hx rfl (hb hby d11_95) rfl k) ?_
  obtain ⟨cl11, Ar11, hin11⟩ := Ary.st (j := (0 : Int32)) A7_bh (by decide) (by show (0 : Int32).toNatClampNeg < 2; decide)
  obtain ⟨T11, h11, X11, e11, W11, st11⟩ := stI X10 hx hZ e10 Ar11 (j := (0 : Int32)) hin11 (g := (mkF m 96 #[.val (.ref a0), .val (.int (1 : Int32))] [(.int (1 : Int32)), (.int (0 : Int32)), (.ref bh)])) rfl rfl (hb hby d11_96)
  have K11 : Keep h7 h11 [bh] := Keep.of_wr W11
  have V11 : Ary Z h11 bh .int [(.int (1 : Int32)), (.int (0 : Int32))] := Ary.set A7_bh W11 rfl
  have N11 := Fr.snoc X11 N7 gh
  have E11_a0 := Exa.keep E7_a0 K11
  have F11_a0_heap := Fld.keep F7_a0_heap K11 (ninS n0h nin0)
  have F11_a0_priorities := Fld.keep F7_a0_priorities K11 (ninS n0h nin0)
  have F11_a0_places := Fld.keep F7_a0_places K11 (ninS n0h nin0)
  have F11_a0_size := Fld.keep F7_a0_size K11 (ninS n0h nin0)
  have F11_a0_taken := Fld.keep F7_a0_taken K11 (ninS n0h nin0)
  have A11_bd := Ary.keep A7_bd K11 (ninS (Ne.symm nhd) nin0)
  have A11_bp := Ary.keep A7_bp K11 (ninS (Ne.symm nhp) nin0)
  have Z11 : n0 ≤ h11.size := Nat.le_trans Z7 K11.1
  have KK11 : Keep h0 h11 [a0, bh, bd, bp] := KK7.trans K11 (allS (Or.inl (List.mem_of_getElem? (i := 1) rfl)) all0)
  refine go st11 ?_
  show Run _ _ _ _ _ _ _ T11 (mkF m 97 #[.val (.ref a0), .val (.int (1 : Int32))] [])
  refine go (T' := T11) (f' := (mkF m 98 #[.val (.ref a0), .val (.int (1 : Int32))] [(.ref a0)])) (by intro t k; exact XS.aloadN X11.here hx rfl (hb hby d11_97) rfl rfl k) ?_
  obtain ⟨T12, X12, e12, st12⟩ := getF X11 hx hZ hown (host := "") (Or.inl (tw hw 15 rfl)) Via.refl e11 F11_a0_places (g := (mkF m 98 #[.val (.ref a0), .val (.int (1 : Int32))] [(.ref a0)])) rfl rfl (hb hby d11_98)
  refine go st12 ?_
  show Run _ _ _ _ _ _ _ T12 (mkF m 101 #[.val (.ref a0), .val (.int (1 : Int32))] [(.ref bp)])
  refine go (T' := T12) (f' := (mkF m 102 #[.val (.ref a0), .val (.int (1 : Int32))] [(.int (1 : Int32)), (.ref bp)])) (by intro t k; exact XS.iloadN X12.here hx rfl (hb hby d11_101) rfl k) ?_
  refine go (T' := T12) (f' := (mkF m 104 #[.val (.ref a0), .val (.int (1 : Int32))] [(.int (-2 : Int32)), (.int (1 : Int32)), (.ref bp)])) (by intro t k; exact XS.bipush X12.here hx rfl (hb hby d11_102) k) ?_
  obtain ⟨cl13, Ar13, hin13⟩ := Ary.st (j := (1 : Int32)) A11_bp (by decide) (by show (1 : Int32).toNatClampNeg < 2; decide)
  obtain ⟨T13, h13, X13, e13, W13, st13⟩ := stI X12 hx hZ e12 Ar13 (j := (1 : Int32)) hin13 (g := (mkF m 104 #[.val (.ref a0), .val (.int (1 : Int32))] [(.int (-2 : Int32)), (.int (1 : Int32)), (.ref bp)])) rfl rfl (hb hby d11_104)
  have K13 : Keep h11 h13 [bp] := Keep.of_wr W13
  have V13 : Ary Z h13 bp .int [(.int (-2 : Int32)), (.int (-2 : Int32))] := Ary.set A11_bp W13 rfl
  have N13 := Fr.snoc X13 N11 gp
  have E13_a0 := Exa.keep E11_a0 K13
  have F13_a0_heap := Fld.keep F11_a0_heap K13 (ninS n0p nin0)
  have F13_a0_priorities := Fld.keep F11_a0_priorities K13 (ninS n0p nin0)
  have F13_a0_places := Fld.keep F11_a0_places K13 (ninS n0p nin0)
  have F13_a0_size := Fld.keep F11_a0_size K13 (ninS n0p nin0)
  have F13_a0_taken := Fld.keep F11_a0_taken K13 (ninS n0p nin0)
  have A13_bh := Ary.keep V11 K13 (ninS nhp nin0)
  have A13_bd := Ary.keep A11_bd K13 (ninS ndp nin0)
  have Z13 : n0 ≤ h13.size := Nat.le_trans Z11 K13.1
  have KK13 : Keep h0 h13 [a0, bh, bd, bp] := KK11.trans K13 (allS (Or.inl (List.mem_of_getElem? (i := 3) rfl)) all0)
  refine go st13 ?_
  show Run _ _ _ _ _ _ _ T13 (mkF m 105 #[.val (.ref a0), .val (.int (1 : Int32))] [])
  refine go (T' := T13) (f' := (mkF m 106 #[.val (.ref a0), .val (.int (1 : Int32))] [(.int (1 : Int32))])) (by intro t k; exact XS.iloadN X13.here hx rfl (hb hby d11_105) rfl k) ?_
  refine retW X13 hx (t := .int) Bd.returns rfl (Or.inl ⟨rfl, Or.inl rfl, _, rfl⟩) (hb hby d11_106) hlk (by decide) (by decide) ?_
  show Q11t45 Z a0 bh bd bp x0 x1 h0 n0 _ T13.heap _
  rw [e13]
  have hv : (some (.int (1 : Int32)) : Option Value) = some (.int (1 : Int32)) := rfl
  exact ⟨hv, N13, KK13, ⟨E13_a0, F13_a0_heap, F13_a0_priorities, F13_a0_places, F13_a0_size, F13_a0_taken, A13_bh, A13_bd, V13, g0, gh, gd, gp, n0h, n0d, n0p, nhd, nhp, ndp⟩⟩
theorem ef_5t46 (m : MethodId) (x0 : Addr) : entryFrame m #[(.ref x0)] 2 = mkF m 0 #[.val (.ref x0), .unset] [] := by first | (simp [entryFrame, mkF, argsToLocals, Value.category]; done) | rfl
def Q5t46 (Z : State) (a0 : Addr) (bh bd bp : Addr) (x0 x1 : UInt64) (h0 : Heap) (n0 : Nat) (v : Option Value) (h : Heap) (L : List Loc) : Prop := v = none ∧ Fr n0 L ∧ Keep h0 h [a0, bh, bd, bp] ∧ own_st Z n0 h a0 bh bd bp (1 : Int32) (0 : Int32) (-1 : Int32) (-1 : Int32) (0 : Int32) (0 : Int32) x0 x1
set_option maxRecDepth 65536 in
set_option maxHeartbeats 40000000 in
theorem rm5t46 (l : Launch) (Z : State) (aw : Array Value) (hw : ∀ d ∈ tables_1, d.before aw Z = true) (ws : List Jvm.Cond) (a0 : Addr) (bh bd bp : Addr) (x0 x1 : UInt64) (h0 : Heap) (n0 : Nat) (Z0 : n0 ≤ h0.size) (St : own_st Z n0 h0 a0 bh bd bp (1 : Int32) (0 : Int32) (-2 : Int32) (-2 : Int32) (0 : Int32) (2 : Int32) x0 x1) :
    MetFree l mclear (head1 (Jvm.Cond.code mclear prog_64_method_3_code 2 none :: ws) rO0) (fun a U => a = #[(.ref a0)] ∧ Z.Warmed39 U.vm ∧ U.heap = h0) (fun _ _ _ _ _ => True) (fun _ U o U' => ∃ v L, o = .returned v ∧ Q5t46 Z a0 bh bd bp x0 x1 h0 n0 v U'.heap L ∧ FrameEnd U o U' L rO0.cells rO0.slots) := by
  refine MetFree.of_bodySF (plainFor_of_name pn_1) hisR ?_
  intro p e s m args below meth c s₁ Bd hml0 hP hK
  obtain ⟨rfl, hZ, hh⟩ := hP
  have hx := Bd.exec
  have hby := Bd.bytes
  have hml : c.maxLocals = 2 := hml0
  have hown : s.vm.findClass "com/example/wayshard/wayshard/service/VertexQueue" = some m.cls := findClass_of_methodNamed Bd.named
  have hnm := (name_of_methodNamed Bd.named Bd.method).1
  have hlk : meth.locks = false := BodyLoose.notSynchronized Bd
  have X0 : Stand p l e rO0 s m #[(.ref a0)] below meth c s₁ [] 0 0 := Stand.of_body Bd
  have e0 : s₁.heap = h0 := by rw [← hh, Bd.state]; rfl
  have N0 := Fr.nil n0
  show Run p e s below (Q5t46 Z a0 bh bd bp x0 x1 h0 n0) rO0.cells rO0.slots s₁ (entryFrame m #[(.ref a0)] 2)
  rw [ef_5t46]
  obtain ⟨E, Fh, Fd, Fp, Fs, Ft, Ah, Ad, Ap, g0, gh, gd, gp, n0h, n0d, n0p, nhd, nhp, ndp⟩ := St
  show Run _ _ _ _ _ _ _ s₁ (mkF m 0 #[.val (.ref a0), .unset] [])
  refine go (T' := s₁) (f' := (mkF m 1 #[.val (.ref a0), .unset] [(.int (0 : Int32))])) (by intro t k; exact XS.iconst X0.here hx rfl (hb hby d5_0) k) ?_
  refine go (T' := s₁) (f' := (mkF m 2 #[.val (.ref a0), .val (.int (0 : Int32))] [])) (by intro t k; exact XS.istoreN X0.here hx rfl (hb hby d5_1) rfl (l' := #[.val (.ref a0), .val (.int (0 : Int32))]) rfl k) ?_
  refine go (T' := s₁) (f' := (mkF m 3 #[.val (.ref a0), .val (.int (0 : Int32))] [(.int (0 : Int32))])) (by intro t k; exact XS.iloadN X0.here hx rfl (hb hby d5_2) rfl k) ?_
  refine go (T' := s₁) (f' := (mkF m 4 #[.val (.ref a0), .val (.int (0 : Int32))] [(.ref a0), (.int (0 : Int32))])) (by intro t k; exact XS.aloadN X0.here hx rfl (hb hby d5_3) rfl rfl k) ?_
  obtain ⟨T1, X1, e1, st1⟩ := getF X0 hx hZ hown (host := "") (Or.inl (tw hw 30 rfl)) Via.refl e0 Fs (g := (mkF m 4 #[.val (.ref a0), .val (.int (0 : Int32))] [(.ref a0), (.int (0 : Int32))])) rfl rfl (hb hby d5_4)
  refine go st1 ?_
  show Run _ _ _ _ _ _ _ T1 (mkF m 7 #[.val (.ref a0), .val (.int (0 : Int32))] [(.int (0 : Int32)), (.int (0 : Int32))])
  refine go (T' := T1) (f' := (mkF m 28 #[.val (.ref a0), .val (.int (0 : Int32))] [])) (by intro t k; exact XS.icmpYes X1.here hx rfl (pc0 := 7) (pc' := 28) rfl (hb hby d5_7) rfl (flt (by decide : ¬ ((0 : Int32) < (0 : Int32)))).2.1 (by decide) (by decide) k) ?_
  refine go (T' := T1) (f' := (mkF m 29 #[.val (.ref a0), .val (.int (0 : Int32))] [(.ref a0)])) (by intro t k; exact XS.aloadN X1.here hx rfl (hb hby d5_28) rfl rfl k) ?_
  obtain ⟨T2, X2, e2, st2⟩ := getF X1 hx hZ hown (host := "") (Or.inl (tw hw 10 rfl)) Via.refl e1 Fh (g := (mkF m 29 #[.val (.ref a0), .val (.int (0 : Int32))] [(.ref a0)])) rfl rfl (hb hby d5_29)
  refine go st2 ?_
  show Run _ _ _ _ _ _ _ T2 (mkF m 32 #[.val (.ref a0), .val (.int (0 : Int32))] [(.ref bh)])
  refine go (T' := T2) (f' := (mkF m 33 #[.val (.ref a0), .val (.int (0 : Int32))] [(.int (2 : Int32))])) (by intro t k; exact alen X2 hx hZ e2 Ah (z := (2 : Int32)) rfl (g := (mkF m 32 #[.val (.ref a0), .val (.int (0 : Int32))] [(.ref bh)])) rfl rfl (hb hby d5_32) _ k) ?_
  refine go (T' := T2) (f' := (mkF m 34 #[.val (.ref a0), .val (.int (0 : Int32))] [(.ref a0), (.int (2 : Int32))])) (by intro t k; exact XS.aloadN X2.here hx rfl (hb hby d5_33) rfl rfl k) ?_
  obtain ⟨T3, X3, e3, st3⟩ := getF X2 hx hZ hown (host := "") (Or.inl (tw hw 32 rfl)) Via.refl e2 Ft (g := (mkF m 34 #[.val (.ref a0), .val (.int (0 : Int32))] [(.ref a0), (.int (2 : Int32))])) rfl rfl (hb hby d5_34)
  refine go st3 ?_
  show Run _ _ _ _ _ _ _ T3 (mkF m 37 #[.val (.ref a0), .val (.int (0 : Int32))] [(.int (2 : Int32)), (.int (2 : Int32))])
  refine go (T' := T3) (f' := (mkF m 38 #[.val (.ref a0), .val (.int (0 : Int32))] [(.int (0 : Int32))])) (by intro t k; exact XS.isub X3.here hx rfl (hb hby d5_37) rfl k) ?_
  refine go (T' := T3) (f' := (mkF m 39 #[.val (.ref a0), .val (.int (0 : Int32))] [])) (by intro t k; exact XS.istoreN X3.here hx rfl (hb hby d5_38) rfl (l' := #[.val (.ref a0), .val (.int (0 : Int32))]) rfl k) ?_
  refine go (T' := T3) (f' := (mkF m 40 #[.val (.ref a0), .val (.int (0 : Int32))] [(.int (0 : Int32))])) (by intro t k; exact XS.iloadN X3.here hx rfl (hb hby d5_39) rfl k) ?_
  refine go (T' := T3) (f' := (mkF m 41 #[.val (.ref a0), .val (.int (0 : Int32))] [(.ref a0), (.int (0 : Int32))])) (by intro t k; exact XS.aloadN X3.here hx rfl (hb hby d5_40) rfl rfl k) ?_
  obtain ⟨T4, X4, e4, st4⟩ := getF X3 hx hZ hown (host := "") (Or.inl (tw hw 10 rfl)) Via.refl e3 Fh (g := (mkF m 41 #[.val (.ref a0), .val (.int (0 : Int32))] [(.ref a0), (.int (0 : Int32))])) rfl rfl (hb hby d5_41)
  refine go st4 ?_
  show Run _ _ _ _ _ _ _ T4 (mkF m 44 #[.val (.ref a0), .val (.int (0 : Int32))] [(.ref bh), (.int (0 : Int32))])
  refine go (T' := T4) (f' := (mkF m 45 #[.val (.ref a0), .val (.int (0 : Int32))] [(.int (2 : Int32)), (.int (0 : Int32))])) (by intro t k; exact alen X4 hx hZ e4 Ah (z := (2 : Int32)) rfl (g := (mkF m 44 #[.val (.ref a0), .val (.int (0 : Int32))] [(.ref bh), (.int (0 : Int32))])) rfl rfl (hb hby d5_44) _ k) ?_
  refine go (T' := T4) (f' := (mkF m 48 #[.val (.ref a0), .val (.int (0 : Int32))] [])) (by intro t k; exact XS.icmpNo X4.here hx rfl (hb hby d5_45) rfl (tlt (by decide : (0 : Int32) < (2 : Int32))).2.1 k) ?_
  refine go (T' := T4) (f' := (mkF m 49 #[.val (.ref a0), .val (.int (0 : Int32))] [(.ref a0)])) (by intro t k; exact XS.aloadN X4.here hx rfl (hb hby d5_48) rfl rfl k) ?_
  obtain ⟨T5, X5, e5, st5⟩ := getF X4 hx hZ hown (host := "") (Or.inl (tw hw 15 rfl)) Via.refl e4 Fp (g := (mkF m 49 #[.val (.ref a0), .val (.int (0 : Int32))] [(.ref a0)])) rfl rfl (hb hby d5_49)
  refine go st5 ?_
  show Run _ _ _ _ _ _ _ T5 (mkF m 52 #[.val (.ref a0), .val (.int (0 : Int32))] [(.ref bp)])
  refine go (T' := T5) (f' := (mkF m 53 #[.val (.ref a0), .val (.int (0 : Int32))] [(.ref a0), (.ref bp)])) (by intro t k; exact XS.aloadN X5.here hx rfl (hb hby d5_52) rfl rfl k) ?_
  obtain ⟨T6, X6, e6, st6⟩ := getF X5 hx hZ hown (host := "") (Or.inl (tw hw 10 rfl)) Via.refl e5 Fh (g := (mkF m 53 #[.val (.ref a0), .val (.int (0 : Int32))] [(.ref a0), (.ref bp)])) rfl rfl (hb hby d5_53)
  refine go st6 ?_
  show Run _ _ _ _ _ _ _ T6 (mkF m 56 #[.val (.ref a0), .val (.int (0 : Int32))] [(.ref bh), (.ref bp)])
  refine go (T' := T6) (f' := (mkF m 57 #[.val (.ref a0), .val (.int (0 : Int32))] [(.int (0 : Int32)), (.ref bh), (.ref bp)])) (by intro t k; exact XS.iloadN X6.here hx rfl (hb hby d5_56) rfl k) ?_
  refine go (T' := T6) (f' := (mkF m 58 #[.val (.ref a0), .val (.int (0 : Int32))] [(.int (1 : Int32)), (.ref bp)])) (by intro t k; exact ldI X6 hx hZ e6 Ah (j := (0 : Int32)) (v := (.int (1 : Int32))) (by decide) rfl (g := (mkF m 57 #[.val (.ref a0), .val (.int (0 : Int32))] [(.int (0 : Int32)), (.ref bh), (.ref bp)])) rfl rfl (hb hby d5_57) _ k) ?_
  refine go (T' := T6) (f' := (mkF m 59 #[.val (.ref a0), .val (.int (0 : Int32))] [(.int (-1 : Int32)), (.int (1 : Int32)), (.ref bp)])) (by intro t k; exact XS.iconst X6.here hx rfl (hb hby d5_58) k) ?_
  obtain ⟨cl7, Ar7, hin7⟩ := Ary.st (j := (1 : Int32)) Ap (by decide) (by show (1 : Int32).toNatClampNeg < 2; decide)
  obtain ⟨T7, h7, X7, e7, W7, st7⟩ := stI X6 hx hZ e6 Ar7 (j := (1 : Int32)) hin7 (g := (mkF m 59 #[.val (.ref a0), .val (.int (0 : Int32))] [(.int (-1 : Int32)), (.int (1 : Int32)), (.ref bp)])) rfl rfl (hb hby d5_59)
  have K7 : Keep h0 h7 [bp] := Keep.of_wr W7
  have V7 : Ary Z h7 bp .int [(.int (-2 : Int32)), (.int (-1 : Int32))] := Ary.set Ap W7 rfl
  have N7 := Fr.snoc X7 N0 gp
  have E7_a0 := Exa.keep E K7
  have F7_a0_heap := Fld.keep Fh K7 (ninS n0p nin0)
  have F7_a0_priorities := Fld.keep Fd K7 (ninS n0p nin0)
  have F7_a0_places := Fld.keep Fp K7 (ninS n0p nin0)
  have F7_a0_size := Fld.keep Fs K7 (ninS n0p nin0)
  have F7_a0_taken := Fld.keep Ft K7 (ninS n0p nin0)
  have A7_bh := Ary.keep Ah K7 (ninS nhp nin0)
  have A7_bd := Ary.keep Ad K7 (ninS ndp nin0)
  have Z7 : n0 ≤ h7.size := Nat.le_trans Z0 K7.1
  have KK7 : Keep h0 h7 [a0, bh, bd, bp] := (Keep.refl _ _).trans K7 (allS (Or.inl (List.mem_of_getElem? (i := 3) rfl)) all0)
  refine go st7 ?_
  show Run _ _ _ _ _ _ _ T7 (mkF m 60 #[.val (.ref a0), .val (.int (0 : Int32))] [])
  refine go (T' := T7) (f' := (mkF m 63 #[.val (.ref a0), .val (.int (1 : Int32))] [])) (by intro t k; exact XS.iinc X7.here hx rfl (hb hby d5_60) rfl (l' := #[.val (.ref a0), .val (.int (1 : Int32))]) rfl k) ?_
  refine go (T' := T7) (f' := (mkF m 39 #[.val (.ref a0), .val (.int (1 : Int32))] [])) (by intro t k; exact XS.goto X7.here hx rfl (pc0 := 63) (pc' := 39) rfl (hb hby d5_63) (by decide) (by decide) k) ?_
  refine go (T' := T7) (f' := (mkF m 40 #[.val (.ref a0), .val (.int (1 : Int32))] [(.int (1 : Int32))])) (by intro t k; exact XS.iloadN X7.here hx rfl (hb hby d5_39) rfl k) ?_
  refine go (T' := T7) (f' := (mkF m 41 #[.val (.ref a0), .val (.int (1 : Int32))] [(.ref a0), (.int (1 : Int32))])) (by intro t k; exact XS.aloadN X7.here hx rfl (hb hby d5_40) rfl rfl k) ?_
  obtain ⟨T8, X8, e8, st8⟩ := getF X7 hx hZ hown (host := "") (Or.inl (tw hw 10 rfl)) Via.refl e7 F7_a0_heap (g := (mkF m 41 #[.val (.ref a0), .val (.int (1 : Int32))] [(.ref a0), (.int (1 : Int32))])) rfl rfl (hb hby d5_41)
  refine go st8 ?_
  show Run _ _ _ _ _ _ _ T8 (mkF m 44 #[.val (.ref a0), .val (.int (1 : Int32))] [(.ref bh), (.int (1 : Int32))])
  refine go (T' := T8) (f' := (mkF m 45 #[.val (.ref a0), .val (.int (1 : Int32))] [(.int (2 : Int32)), (.int (1 : Int32))])) (by intro t k; exact alen X8 hx hZ e8 A7_bh (z := (2 : Int32)) rfl (g := (mkF m 44 #[.val (.ref a0), .val (.int (1 : Int32))] [(.ref bh), (.int (1 : Int32))])) rfl rfl (hb hby d5_44) _ k) ?_
  refine go (T' := T8) (f' := (mkF m 48 #[.val (.ref a0), .val (.int (1 : Int32))] [])) (by intro t k; exact XS.icmpNo X8.here hx rfl (hb hby d5_45) rfl (tlt (by decide : (1 : Int32) < (2 : Int32))).2.1 k) ?_
  refine go (T' := T8) (f' := (mkF m 49 #[.val (.ref a0), .val (.int (1 : Int32))] [(.ref a0)])) (by intro t k; exact XS.aloadN X8.here hx rfl (hb hby d5_48) rfl rfl k) ?_
  obtain ⟨T9, X9, e9, st9⟩ := getF X8 hx hZ hown (host := "") (Or.inl (tw hw 15 rfl)) Via.refl e8 F7_a0_places (g := (mkF m 49 #[.val (.ref a0), .val (.int (1 : Int32))] [(.ref a0)])) rfl rfl (hb hby d5_49)
  refine go st9 ?_
  show Run _ _ _ _ _ _ _ T9 (mkF m 52 #[.val (.ref a0), .val (.int (1 : Int32))] [(.ref bp)])
  refine go (T' := T9) (f' := (mkF m 53 #[.val (.ref a0), .val (.int (1 : Int32))] [(.ref a0), (.ref bp)])) (by intro t k; exact XS.aloadN X9.here hx rfl (hb hby d5_52) rfl rfl k) ?_
  obtain ⟨T10, X10, e10, st10⟩ := getF X9 hx hZ hown (host := "") (Or.inl (tw hw 10 rfl)) Via.refl e9 F7_a0_heap (g := (mkF m 53 #[.val (.ref a0), .val (.int (1 : Int32))] [(.ref a0), (.ref bp)])) rfl rfl (hb hby d5_53)
  refine go st10 ?_
  show Run _ _ _ _ _ _ _ T10 (mkF m 56 #[.val (.ref a0), .val (.int (1 : Int32))] [(.ref bh), (.ref bp)])
  refine go (T' := T10) (f' := (mkF m 57 #[.val (.ref a0), .val (.int (1 : Int32))] [(.int (1 : Int32)), (.ref bh), (.ref bp)])) (by intro t k; exact XS.iloadN X10.here hx rfl (hb hby d5_56) rfl k) ?_
  refine go (T' := T10) (f' := (mkF m 58 #[.val (.ref a0), .val (.int (1 : Int32))] [(.int (0 : Int32)), (.ref bp)])) (by intro t k; exact ldI X10 hx hZ e10 A7_bh (j := (1 : Int32)) (v := (.int (0 : Int32))) (by decide) rfl (g := (mkF m 57 #[.val (.ref a0), .val (.int (1 : Int32))] [(.int (1 : Int32)), (.ref bh), (.ref bp)])) rfl rfl (hb hby d5_57) _ k) ?_
  refine go (T' := T10) (f' := (mkF m 59 #[.val (.ref a0), .val (.int (1 : Int32))] [(.int (-1 : Int32)), (.int (0 : Int32)), (.ref bp)])) (by intro t k; exact XS.iconst X10.here hx rfl (hb hby d5_58) k) ?_
  obtain ⟨cl11, Ar11, hin11⟩ := Ary.st (j := (0 : Int32)) V7 (by decide) (by show (0 : Int32).toNatClampNeg < 2; decide)
  obtain ⟨T11, h11, X11, e11, W11, st11⟩ := stI X10 hx hZ e10 Ar11 (j := (0 : Int32)) hin11 (g := (mkF m 59 #[.val (.ref a0), .val (.int (1 : Int32))] [(.int (-1 : Int32)), (.int (0 : Int32)), (.ref bp)])) rfl rfl (hb hby d5_59)
  have K11 : Keep h7 h11 [bp] := Keep.of_wr W11
  have V11 : Ary Z h11 bp .int [(.int (-1 : Int32)), (.int (-1 : Int32))] := Ary.set V7 W11 rfl
  have N11 := Fr.snoc X11 N7 gp
  have E11_a0 := Exa.keep E7_a0 K11
  have F11_a0_heap := Fld.keep F7_a0_heap K11 (ninS n0p nin0)
  have F11_a0_priorities := Fld.keep F7_a0_priorities K11 (ninS n0p nin0)
  have F11_a0_places := Fld.keep F7_a0_places K11 (ninS n0p nin0)
  have F11_a0_size := Fld.keep F7_a0_size K11 (ninS n0p nin0)
  have F11_a0_taken := Fld.keep F7_a0_taken K11 (ninS n0p nin0)
  have A11_bh := Ary.keep A7_bh K11 (ninS nhp nin0)
  have A11_bd := Ary.keep A7_bd K11 (ninS ndp nin0)
  have Z11 : n0 ≤ h11.size := Nat.le_trans Z7 K11.1
  have KK11 : Keep h0 h11 [a0, bh, bd, bp] := KK7.trans K11 (allS (Or.inl (List.mem_of_getElem? (i := 3) rfl)) all0)
  refine go st11 ?_
  show Run _ _ _ _ _ _ _ T11 (mkF m 60 #[.val (.ref a0), .val (.int (1 : Int32))] [])
  refine go (T' := T11) (f' := (mkF m 63 #[.val (.ref a0), .val (.int (2 : Int32))] [])) (by intro t k; exact XS.iinc X11.here hx rfl (hb hby d5_60) rfl (l' := #[.val (.ref a0), .val (.int (2 : Int32))]) rfl k) ?_
  refine go (T' := T11) (f' := (mkF m 39 #[.val (.ref a0), .val (.int (2 : Int32))] [])) (by intro t k; exact XS.goto X11.here hx rfl (pc0 := 63) (pc' := 39) rfl (hb hby d5_63) (by decide) (by decide) k) ?_
  refine go (T' := T11) (f' := (mkF m 40 #[.val (.ref a0), .val (.int (2 : Int32))] [(.int (2 : Int32))])) (by intro t k; exact XS.iloadN X11.here hx rfl (hb hby d5_39) rfl k) ?_
  refine go (T' := T11) (f' := (mkF m 41 #[.val (.ref a0), .val (.int (2 : Int32))] [(.ref a0), (.int (2 : Int32))])) (by intro t k; exact XS.aloadN X11.here hx rfl (hb hby d5_40) rfl rfl k) ?_
  obtain ⟨T12, X12, e12, st12⟩ := getF X11 hx hZ hown (host := "") (Or.inl (tw hw 10 rfl)) Via.refl e11 F11_a0_heap (g := (mkF m 41 #[.val (.ref a0), .val (.int (2 : Int32))] [(.ref a0), (.int (2 : Int32))])) rfl rfl (hb hby d5_41)
  refine go st12 ?_
  show Run _ _ _ _ _ _ _ T12 (mkF m 44 #[.val (.ref a0), .val (.int (2 : Int32))] [(.ref bh), (.int (2 : Int32))])
  refine go (T' := T12) (f' := (mkF m 45 #[.val (.ref a0), .val (.int (2 : Int32))] [(.int (2 : Int32)), (.int (2 : Int32))])) (by intro t k; exact alen X12 hx hZ e12 A11_bh (z := (2 : Int32)) rfl (g := (mkF m 44 #[.val (.ref a0), .val (.int (2 : Int32))] [(.ref bh), (.int (2 : Int32))])) rfl rfl (hb hby d5_44) _ k) ?_
  refine go (T' := T12) (f' := (mkF m 66 #[.val (.ref a0), .val (.int (2 : Int32))] [])) (by intro t k; exact XS.icmpYes X12.here hx rfl (pc0 := 45) (pc' := 66) rfl (hb hby d5_45) rfl (flt (by decide : ¬ ((2 : Int32) < (2 : Int32)))).2.1 (by decide) (by decide) k) ?_
  refine go (T' := T12) (f' := (mkF m 67 #[.val (.ref a0), .val (.int (2 : Int32))] [(.ref a0)])) (by intro t k; exact XS.aloadN X12.here hx rfl (hb hby d5_66) rfl rfl k) ?_
  refine go (T' := T12) (f' := (mkF m 68 #[.val (.ref a0), .val (.int (2 : Int32))] [(.int (0 : Int32)), (.ref a0)])) (by intro t k; exact XS.iconst X12.here hx rfl (hb hby d5_67) k) ?_
  obtain ⟨T13, h13, X13, e13, W13, st13⟩ := putF X12 hx hZ hown (host := "") (Or.inl (tw hw 30 rfl)) Via.refl e12 F11_a0_size E11_a0 (Or.inl (tw hw 31 rfl)) (tw hw 1 rfl) (ty := .int) (by decide) rfl rfl (g := (mkF m 68 #[.val (.ref a0), .val (.int (2 : Int32))] [(.int (0 : Int32)), (.ref a0)])) rfl rfl (hb hby d5_68)
  have K13 : Keep h11 h13 [a0] := Keep.of_wr W13
  have F13_a0_heap := Fld.other W13 F11_a0_heap (Or.inr (slot_ne (Or.inr (tw hw 11 rfl)) (Or.inl (tw hw 31 rfl)) (by decide) (t := (.array .int)) (t' := .int) (by decide) (by decide)))
  have F13_a0_priorities := Fld.other W13 F11_a0_priorities (Or.inr (slot_ne (Or.inr (tw hw 14 rfl)) (Or.inl (tw hw 31 rfl)) (by decide) (t := (.array .double)) (t' := .int) (by decide) (by decide)))
  have F13_a0_places := Fld.other W13 F11_a0_places (Or.inr (slot_ne (Or.inr (tw hw 16 rfl)) (Or.inl (tw hw 31 rfl)) (by decide) (t := (.array .int)) (t' := .int) (by decide) (by decide)))
  have F13_a0_size : Fld Z h13 a0 "com/example/wayshard/wayshard/service/VertexQueue" "size" "I" (.int (0 : Int32)) := F11_a0_size.same W13
  have F13_a0_taken := Fld.other W13 F11_a0_taken (Or.inr (slot_ne (Or.inl (tw hw 33 rfl)) (Or.inl (tw hw 31 rfl)) (by decide) (t := .int) (t' := .int) (by decide) (by decide)))
  have N13 := Fr.snoc X13 N11 g0
  have E13_a0 := Exa.keep E11_a0 K13
  have A13_bh := Ary.keep A11_bh K13 (ninS (Ne.symm n0h) nin0)
  have A13_bd := Ary.keep A11_bd K13 (ninS (Ne.symm n0d) nin0)
  have A13_bp := Ary.keep V11 K13 (ninS (Ne.symm n0p) nin0)
  have Z13 : n0 ≤ h13.size := Nat.le_trans Z11 K13.1
  have KK13 : Keep h0 h13 [a0, bh, bd, bp] := KK11.trans K13 (allS (Or.inl (List.mem_of_getElem? (i := 0) rfl)) all0)
  refine go st13 ?_
  show Run _ _ _ _ _ _ _ T13 (mkF m 71 #[.val (.ref a0), .val (.int (2 : Int32))] [])
  refine go (T' := T13) (f' := (mkF m 72 #[.val (.ref a0), .val (.int (2 : Int32))] [(.ref a0)])) (by intro t k; exact XS.aloadN X13.here hx rfl (hb hby d5_71) rfl rfl k) ?_
  refine go (T' := T13) (f' := (mkF m 73 #[.val (.ref a0), .val (.int (2 : Int32))] [(.int (0 : Int32)), (.ref a0)])) (by intro t k; exact XS.iconst X13.here hx rfl (hb hby d5_72) k) ?_
  obtain ⟨T14, h14, X14, e14, W14, st14⟩ := putF X13 hx hZ hown (host := "") (Or.inl (tw hw 32 rfl)) Via.refl e13 F13_a0_taken E13_a0 (Or.inl (tw hw 33 rfl)) (tw hw 1 rfl) (ty := .int) (by decide) rfl rfl (g := (mkF m 73 #[.val (.ref a0), .val (.int (2 : Int32))] [(.int (0 : Int32)), (.ref a0)])) rfl rfl (hb hby d5_73)
  have K14 : Keep h13 h14 [a0] := Keep.of_wr W14
  have F14_a0_heap := Fld.other W14 F13_a0_heap (Or.inr (slot_ne (Or.inr (tw hw 11 rfl)) (Or.inl (tw hw 33 rfl)) (by decide) (t := (.array .int)) (t' := .int) (by decide) (by decide)))
  have F14_a0_priorities := Fld.other W14 F13_a0_priorities (Or.inr (slot_ne (Or.inr (tw hw 14 rfl)) (Or.inl (tw hw 33 rfl)) (by decide) (t := (.array .double)) (t' := .int) (by decide) (by decide)))
  have F14_a0_places := Fld.other W14 F13_a0_places (Or.inr (slot_ne (Or.inr (tw hw 16 rfl)) (Or.inl (tw hw 33 rfl)) (by decide) (t := (.array .int)) (t' := .int) (by decide) (by decide)))
  have F14_a0_size := Fld.other W14 F13_a0_size (Or.inr (slot_ne (Or.inl (tw hw 31 rfl)) (Or.inl (tw hw 33 rfl)) (by decide) (t := .int) (t' := .int) (by decide) (by decide)))
  have F14_a0_taken : Fld Z h14 a0 "com/example/wayshard/wayshard/service/VertexQueue" "taken" "I" (.int (0 : Int32)) := F13_a0_taken.same W14
  have N14 := Fr.snoc X14 N13 g0
  have E14_a0 := Exa.keep E13_a0 K14
  have A14_bh := Ary.keep A13_bh K14 (ninS (Ne.symm n0h) nin0)
  have A14_bd := Ary.keep A13_bd K14 (ninS (Ne.symm n0d) nin0)
  have A14_bp := Ary.keep A13_bp K14 (ninS (Ne.symm n0p) nin0)
  have Z14 : n0 ≤ h14.size := Nat.le_trans Z13 K14.1
  have KK14 : Keep h0 h14 [a0, bh, bd, bp] := KK13.trans K14 (allS (Or.inl (List.mem_of_getElem? (i := 0) rfl)) all0)
  refine go st14 ?_
  show Run _ _ _ _ _ _ _ T14 (mkF m 76 #[.val (.ref a0), .val (.int (2 : Int32))] [])
  refine retV X14 hx Bd.returns (hb hby d5_76) hlk (by decide) (by decide) ?_
  show Q5t46 Z a0 bh bd bp x0 x1 h0 n0 _ T14.heap _
  rw [e14]
  exact ⟨rfl, N14, KK14, ⟨E14_a0, F14_a0_heap, F14_a0_priorities, F14_a0_places, F14_a0_size, F14_a0_taken, A14_bh, A14_bd, A14_bp, g0, gh, gd, gp, n0h, n0d, n0p, nhd, nhp, ndp⟩⟩
theorem pd_2829Z : parseMethodDescriptor "()Z" = some ⟨[], some .boolean⟩ := by decide +kernel
theorem pd_28I29Z : parseMethodDescriptor "(I)Z" = some ⟨[.int], some .boolean⟩ := by decide +kernel
theorem pd_28ID29V : parseMethodDescriptor "(ID)V" = some ⟨[.int, .double], none⟩ := by decide +kernel
theorem pd_2829I : parseMethodDescriptor "()I" = some ⟨[], some .int⟩ := by decide +kernel
theorem pd_28II29I : parseMethodDescriptor "(II)I" = some ⟨[.int, .int], some .int⟩ := by decide +kernel
theorem pd_2829V : parseMethodDescriptor "()V" = some ⟨[], none⟩ := by decide +kernel
theorem pn_0 : plainName "com/example/wayshard/wayshard/service/VertexQueueClearPinLaw" = true := by first | (simp [plainName, overriddenIn]; done) | decide +kernel
theorem ef_0 (m : MethodId) (x0 : Int32) (x1 : Int32) (x2 : Int32) (x3 : Int32) : entryFrame m #[(.int x0), (.int x1), (.int x2), (.int x3)] maxLocals = mkF m 0 #[.val (.int x0), .val (.int x1), .val (.int x2), .val (.int x3), .unset, .unset, .unset, .unset, .unset, .unset, .unset, .unset, .unset, .unset, .unset, .unset, .unset, .unset] [] := by first | (simp [entryFrame, mkF, argsToLocals, Value.category, maxLocals]; done) | rfl
def Q0 (Z : State) (p0 : Int32) (p1 : Int32) (p2 : Int32) (p3 : Int32) (h0 : Heap) (n0 : Nat) (v : Option Value) (h : Heap) (L : List Loc) : Prop := v = some (.int (1 : Int32)) ∧ Fr n0 L
set_option maxRecDepth 65536 in
set_option maxHeartbeats 40000000 in
theorem rm0 (l : Launch) (Z : State) (aw : Array Value) (hw : ∀ d ∈ tables_1, d.before aw Z = true) (ws : List Jvm.Cond) (p0 : Int32) (p1 : Int32) (p2 : Int32) (p3 : Int32) (h0 : Heap) (n0 : Nat) (Z0 : n0 ≤ h0.size) :
    MetFree l x (head1 (Jvm.Cond.code x code maxLocals ret :: ws) room_1) (fun a U => a = #[(.int p0), (.int p1), (.int p2), (.int p3)] ∧ Z.Warmed39 U.vm ∧ U.heap = h0) (fun _ _ _ _ _ => True) (fun _ U o U' => ∃ v L, o = .returned v ∧ Q0 Z p0 p1 p2 p3 h0 n0 v U'.heap L ∧ FrameEnd U o U' L room_1.cells room_1.slots) := by
  refine MetFree.of_bodySF (plainFor_of_name pn_0) hisR ?_
  intro p e s m args below meth c s₁ Bd hml0 hP hK
  obtain ⟨rfl, hZ, hh⟩ := hP
  have hx := Bd.exec
  have hby := Bd.bytes
  have hml : c.maxLocals = 18 := hml0
  have hown : s.vm.findClass "com/example/wayshard/wayshard/service/VertexQueueClearPinLaw" = some m.cls := findClass_of_methodNamed Bd.named
  have hnm := (name_of_methodNamed Bd.named Bd.method).1
  have hlk : meth.locks = false := BodyLoose.notSynchronized Bd
  have X0 : Stand p l e room_1 s m #[(.int p0), (.int p1), (.int p2), (.int p3)] below meth c s₁ [] 0 0 := Stand.of_body Bd
  have e0 : s₁.heap = h0 := by rw [← hh, Bd.state]; rfl
  have N0 := Fr.nil n0
  show Run p e s below (Q0 Z p0 p1 p2 p3 h0 n0) room_1.cells room_1.slots s₁ (entryFrame m #[(.int p0), (.int p1), (.int p2), (.int p3)] maxLocals)
  rw [ef_0]
  show Run _ _ _ _ _ _ _ s₁ (mkF m 0 #[.val (.int p0), .val (.int p1), .val (.int p2), .val (.int p3), .unset, .unset, .unset, .unset, .unset, .unset, .unset, .unset, .unset, .unset, .unset, .unset, .unset, .unset] [])
  refine go (T' := s₁) (f' := (mkF m 1 #[.val (.int p0), .val (.int p1), .val (.int p2), .val (.int p3), .unset, .unset, .unset, .unset, .unset, .unset, .unset, .unset, .unset, .unset, .unset, .unset, .unset, .unset] [(.int p0)])) (by intro t k; exact XS.iloadN X0.here hx rfl (hb hby at_0) rfl k) ?_
  refine go (T' := s₁) (f' := (mkF m 2 #[.val (.int p0), .val (.int p1), .val (.int p2), .val (.int p3), .unset, .unset, .unset, .unset, .unset, .unset, .unset, .unset, .unset, .unset, .unset, .unset, .unset, .unset] [(.int (1 : Int32)), (.int p0)])) (by intro t k; exact XS.iconst X0.here hx rfl (hb hby at_1) k) ?_
  refine go (T' := s₁) (f' := (mkF m 3 #[.val (.int p0), .val (.int p1), .val (.int p2), .val (.int p3), .unset, .unset, .unset, .unset, .unset, .unset, .unset, .unset, .unset, .unset, .unset, .unset, .unset, .unset] [(.int (p0 &&& (1 : Int32)))])) (by intro t k; exact XS.iand X0.here hx rfl (hb hby at_2) rfl k) ?_
  obtain ⟨z1, hz1⟩ : ∃ z : Int32, z = (if (p0 &&& (1 : Int32)) = (0 : Int32) then (0 : Int32) else (1 : Int32)) := ⟨_, rfl⟩
  have J3 : Run p e s below (Q0 Z p0 p1 p2 p3 h0 n0) room_1.cells room_1.slots s₁ (mkF m 11 #[.val (.int p0), .val (.int p1), .val (.int p2), .val (.int p3), .unset, .unset, .unset, .unset, .unset, .unset, .unset, .unset, .unset, .unset, .unset, .unset, .unset, .unset] [(.int z1)]) := by
    show Run _ _ _ _ _ _ _ s₁ (mkF m 11 #[.val (.int p0), .val (.int p1), .val (.int p2), .val (.int p3), .unset, .unset, .unset, .unset, .unset, .unset, .unset, .unset, .unset, .unset, .unset, .unset, .unset, .unset] [(.int z1)])
    refine go (T' := s₁) (f' := (mkF m 13 #[.val (.int p0), .val (.int p1), .val (.int p2), .val (.int p3), .val (.int z1), .unset, .unset, .unset, .unset, .unset, .unset, .unset, .unset, .unset, .unset, .unset, .unset, .unset] [])) (by intro t k; exact XS.istore X0.here hx rfl (hb hby at_11) rfl (l' := #[.val (.int p0), .val (.int p1), .val (.int p2), .val (.int p3), .val (.int z1), .unset, .unset, .unset, .unset, .unset, .unset, .unset, .unset, .unset, .unset, .unset, .unset, .unset]) rfl k) ?_
    refine go (T' := s₁) (f' := (mkF m 14 #[.val (.int p0), .val (.int p1), .val (.int p2), .val (.int p3), .val (.int z1), .unset, .unset, .unset, .unset, .unset, .unset, .unset, .unset, .unset, .unset, .unset, .unset, .unset] [(.int p0)])) (by intro t k; exact XS.iloadN X0.here hx rfl (hb hby at_13) rfl k) ?_
    refine go (T' := s₁) (f' := (mkF m 15 #[.val (.int p0), .val (.int p1), .val (.int p2), .val (.int p3), .val (.int z1), .unset, .unset, .unset, .unset, .unset, .unset, .unset, .unset, .unset, .unset, .unset, .unset, .unset] [(.int (2 : Int32)), (.int p0)])) (by intro t k; exact XS.iconst X0.here hx rfl (hb hby at_14) k) ?_
    refine go (T' := s₁) (f' := (mkF m 16 #[.val (.int p0), .val (.int p1), .val (.int p2), .val (.int p3), .val (.int z1), .unset, .unset, .unset, .unset, .unset, .unset, .unset, .unset, .unset, .unset, .unset, .unset, .unset] [(.int (p0 &&& (2 : Int32)))])) (by intro t k; exact XS.iand X0.here hx rfl (hb hby at_15) rfl k) ?_
    obtain ⟨z2, hz2⟩ : ∃ z : Int32, z = (if (p0 &&& (2 : Int32)) = (0 : Int32) then (0 : Int32) else (1 : Int32)) := ⟨_, rfl⟩
    have J16 : Run p e s below (Q0 Z p0 p1 p2 p3 h0 n0) room_1.cells room_1.slots s₁ (mkF m 24 #[.val (.int p0), .val (.int p1), .val (.int p2), .val (.int p3), .val (.int z1), .unset, .unset, .unset, .unset, .unset, .unset, .unset, .unset, .unset, .unset, .unset, .unset, .unset] [(.int z2)]) := by
      show Run _ _ _ _ _ _ _ s₁ (mkF m 24 #[.val (.int p0), .val (.int p1), .val (.int p2), .val (.int p3), .val (.int z1), .unset, .unset, .unset, .unset, .unset, .unset, .unset, .unset, .unset, .unset, .unset, .unset, .unset] [(.int z2)])
      refine go (T' := s₁) (f' := (mkF m 26 #[.val (.int p0), .val (.int p1), .val (.int p2), .val (.int p3), .val (.int z1), .val (.int z2), .unset, .unset, .unset, .unset, .unset, .unset, .unset, .unset, .unset, .unset, .unset, .unset] [])) (by intro t k; exact XS.istore X0.here hx rfl (hb hby at_24) rfl (l' := #[.val (.int p0), .val (.int p1), .val (.int p2), .val (.int p3), .val (.int z1), .val (.int z2), .unset, .unset, .unset, .unset, .unset, .unset, .unset, .unset, .unset, .unset, .unset, .unset]) rfl k) ?_
      refine go (T' := s₁) (f' := (mkF m 27 #[.val (.int p0), .val (.int p1), .val (.int p2), .val (.int p3), .val (.int z1), .val (.int z2), .unset, .unset, .unset, .unset, .unset, .unset, .unset, .unset, .unset, .unset, .unset, .unset] [(.int p0)])) (by intro t k; exact XS.iloadN X0.here hx rfl (hb hby at_26) rfl k) ?_
      refine go (T' := s₁) (f' := (mkF m 28 #[.val (.int p0), .val (.int p1), .val (.int p2), .val (.int p3), .val (.int z1), .val (.int z2), .unset, .unset, .unset, .unset, .unset, .unset, .unset, .unset, .unset, .unset, .unset, .unset] [(.int (2 : Int32)), (.int p0)])) (by intro t k; exact XS.iconst X0.here hx rfl (hb hby at_27) k) ?_
      refine go (T' := s₁) (f' := (mkF m 29 #[.val (.int p0), .val (.int p1), .val (.int p2), .val (.int p3), .val (.int z1), .val (.int z2), .unset, .unset, .unset, .unset, .unset, .unset, .unset, .unset, .unset, .unset, .unset, .unset] [(.int (((p0).toUInt32 >>> ((2 : Int32) &&& 31).toUInt32).toInt32))])) (by intro t k; exact XS.iushr X0.here hx rfl (hb hby at_28) rfl k) ?_
      refine go (T' := s₁) (f' := (mkF m 30 #[.val (.int p0), .val (.int p1), .val (.int p2), .val (.int p3), .val (.int z1), .val (.int z2), .unset, .unset, .unset, .unset, .unset, .unset, .unset, .unset, .unset, .unset, .unset, .unset] [(.int (3 : Int32)), (.int (((p0).toUInt32 >>> ((2 : Int32) &&& 31).toUInt32).toInt32))])) (by intro t k; exact XS.iconst X0.here hx rfl (hb hby at_29) k) ?_
      refine go (T' := s₁) (f' := (mkF m 31 #[.val (.int p0), .val (.int p1), .val (.int p2), .val (.int p3), .val (.int z1), .val (.int z2), .unset, .unset, .unset, .unset, .unset, .unset, .unset, .unset, .unset, .unset, .unset, .unset] [(.int ((((p0).toUInt32 >>> ((2 : Int32) &&& 31).toUInt32).toInt32) &&& (3 : Int32)))])) (by intro t k; exact XS.iand X0.here hx rfl (hb hby at_30) rfl k) ?_
      refine go (T' := s₁) (f' := (mkF m 33 #[.val (.int p0), .val (.int p1), .val (.int p2), .val (.int p3), .val (.int z1), .val (.int z2), .val (.int ((((p0).toUInt32 >>> ((2 : Int32) &&& 31).toUInt32).toInt32) &&& (3 : Int32))), .unset, .unset, .unset, .unset, .unset, .unset, .unset, .unset, .unset, .unset, .unset] [])) (by intro t k; exact XS.istore X0.here hx rfl (hb hby at_31) rfl (l' := #[.val (.int p0), .val (.int p1), .val (.int p2), .val (.int p3), .val (.int z1), .val (.int z2), .val (.int ((((p0).toUInt32 >>> ((2 : Int32) &&& 31).toUInt32).toInt32) &&& (3 : Int32))), .unset, .unset, .unset, .unset, .unset, .unset, .unset, .unset, .unset, .unset, .unset]) rfl k) ?_
      refine go (T' := s₁) (f' := (mkF m 34 #[.val (.int p0), .val (.int p1), .val (.int p2), .val (.int p3), .val (.int z1), .val (.int z2), .val (.int ((((p0).toUInt32 >>> ((2 : Int32) &&& 31).toUInt32).toInt32) &&& (3 : Int32))), .unset, .unset, .unset, .unset, .unset, .unset, .unset, .unset, .unset, .unset, .unset] [(.int p0)])) (by intro t k; exact XS.iloadN X0.here hx rfl (hb hby at_33) rfl k) ?_
      refine go (T' := s₁) (f' := (mkF m 35 #[.val (.int p0), .val (.int p1), .val (.int p2), .val (.int p3), .val (.int z1), .val (.int z2), .val (.int ((((p0).toUInt32 >>> ((2 : Int32) &&& 31).toUInt32).toInt32) &&& (3 : Int32))), .unset, .unset, .unset, .unset, .unset, .unset, .unset, .unset, .unset, .unset, .unset] [(.int (4 : Int32)), (.int p0)])) (by intro t k; exact XS.iconst X0.here hx rfl (hb hby at_34) k) ?_
      refine go (T' := s₁) (f' := (mkF m 36 #[.val (.int p0), .val (.int p1), .val (.int p2), .val (.int p3), .val (.int z1), .val (.int z2), .val (.int ((((p0).toUInt32 >>> ((2 : Int32) &&& 31).toUInt32).toInt32) &&& (3 : Int32))), .unset, .unset, .unset, .unset, .unset, .unset, .unset, .unset, .unset, .unset, .unset] [(.int (((p0).toUInt32 >>> ((4 : Int32) &&& 31).toUInt32).toInt32))])) (by intro t k; exact XS.iushr X0.here hx rfl (hb hby at_35) rfl k) ?_
      refine go (T' := s₁) (f' := (mkF m 37 #[.val (.int p0), .val (.int p1), .val (.int p2), .val (.int p3), .val (.int z1), .val (.int z2), .val (.int ((((p0).toUInt32 >>> ((2 : Int32) &&& 31).toUInt32).toInt32) &&& (3 : Int32))), .unset, .unset, .unset, .unset, .unset, .unset, .unset, .unset, .unset, .unset, .unset] [(.int (1 : Int32)), (.int (((p0).toUInt32 >>> ((4 : Int32) &&& 31).toUInt32).toInt32))])) (by intro t k; exact XS.iconst X0.here hx rfl (hb hby at_36) k) ?_
      refine go (T' := s₁) (f' := (mkF m 38 #[.val (.int p0), .val (.int p1), .val (.int p2), .val (.int p3), .val (.int z1), .val (.int z2), .val (.int ((((p0).toUInt32 >>> ((2 : Int32) &&& 31).toUInt32).toInt32) &&& (3 : Int32))), .unset, .unset, .unset, .unset, .unset, .unset, .unset, .unset, .unset, .unset, .unset] [(.int ((((p0).toUInt32 >>> ((4 : Int32) &&& 31).toUInt32).toInt32) &&& (1 : Int32)))])) (by intro t k; exact XS.iand X0.here hx rfl (hb hby at_37) rfl k) ?_
      refine go (T' := s₁) (f' := (mkF m 40 #[.val (.int p0), .val (.int p1), .val (.int p2), .val (.int p3), .val (.int z1), .val (.int z2), .val (.int ((((p0).toUInt32 >>> ((2 : Int32) &&& 31).toUInt32).toInt32) &&& (3 : Int32))), .val (.int ((((p0).toUInt32 >>> ((4 : Int32) &&& 31).toUInt32).toInt32) &&& (1 : Int32))), .unset, .unset, .unset, .unset, .unset, .unset, .unset, .unset, .unset, .unset] [])) (by intro t k; exact XS.istore X0.here hx rfl (hb hby at_38) rfl (l' := #[.val (.int p0), .val (.int p1), .val (.int p2), .val (.int p3), .val (.int z1), .val (.int z2), .val (.int ((((p0).toUInt32 >>> ((2 : Int32) &&& 31).toUInt32).toInt32) &&& (3 : Int32))), .val (.int ((((p0).toUInt32 >>> ((4 : Int32) &&& 31).toUInt32).toInt32) &&& (1 : Int32))), .unset, .unset, .unset, .unset, .unset, .unset, .unset, .unset, .unset, .unset]) rfl k) ?_
      refine go (T' := s₁) (f' := (mkF m 41 #[.val (.int p0), .val (.int p1), .val (.int p2), .val (.int p3), .val (.int z1), .val (.int z2), .val (.int ((((p0).toUInt32 >>> ((2 : Int32) &&& 31).toUInt32).toInt32) &&& (3 : Int32))), .val (.int ((((p0).toUInt32 >>> ((4 : Int32) &&& 31).toUInt32).toInt32) &&& (1 : Int32))), .unset, .unset, .unset, .unset, .unset, .unset, .unset, .unset, .unset, .unset] [(.int p1)])) (by intro t k; exact XS.iloadN X0.here hx rfl (hb hby at_40) rfl k) ?_
      refine go (T' := s₁) (f' := (mkF m 44 #[.val (.int p0), .val (.int p1), .val (.int p2), .val (.int p3), .val (.int z1), .val (.int z2), .val (.int ((((p0).toUInt32 >>> ((2 : Int32) &&& 31).toUInt32).toInt32) &&& (3 : Int32))), .val (.int ((((p0).toUInt32 >>> ((4 : Int32) &&& 31).toUInt32).toInt32) &&& (1 : Int32))), .unset, .unset, .unset, .unset, .unset, .unset, .unset, .unset, .unset, .unset] [(.int (1000 : Int32)), (.int p1)])) (by intro t k; exact XS.sipush X0.here hx rfl (hb hby at_41) k) ?_
      refine go (T' := s₁) (f' := (mkF m 45 #[.val (.int p0), .val (.int p1), .val (.int p2), .val (.int p3), .val (.int z1), .val (.int z2), .val (.int ((((p0).toUInt32 >>> ((2 : Int32) &&& 31).toUInt32).toInt32) &&& (3 : Int32))), .val (.int ((((p0).toUInt32 >>> ((4 : Int32) &&& 31).toUInt32).toInt32) &&& (1 : Int32))), .unset, .unset, .unset, .unset, .unset, .unset, .unset, .unset, .unset, .unset] [(.int (p1 % (1000 : Int32)))])) (by intro t k; exact iremM X0 hx rfl (hb hby at_44) rfl (by decide) k) ?_
      refine go (T' := s₁) (f' := (mkF m 46 #[.val (.int p0), .val (.int p1), .val (.int p2), .val (.int p3), .val (.int z1), .val (.int z2), .val (.int ((((p0).toUInt32 >>> ((2 : Int32) &&& 31).toUInt32).toInt32) &&& (3 : Int32))), .val (.int ((((p0).toUInt32 >>> ((4 : Int32) &&& 31).toUInt32).toInt32) &&& (1 : Int32))), .unset, .unset, .unset, .unset, .unset, .unset, .unset, .unset, .unset, .unset] [(.double (FP.i2d (p1 % (1000 : Int32))))])) (by intro t k; exact XS.i2dS X0.here hx rfl (hb hby at_45) rfl rfl k) ?_
      refine go (T' := s₁) (f' := (mkF m 48 #[.val (.int p0), .val (.int p1), .val (.int p2), .val (.int p3), .val (.int z1), .val (.int z2), .val (.int ((((p0).toUInt32 >>> ((2 : Int32) &&& 31).toUInt32).toInt32) &&& (3 : Int32))), .val (.int ((((p0).toUInt32 >>> ((4 : Int32) &&& 31).toUInt32).toInt32) &&& (1 : Int32))), .val (.double (FP.i2d (p1 % (1000 : Int32)))), .second, .unset, .unset, .unset, .unset, .unset, .unset, .unset, .unset] [])) (by intro t k; exact XS.dstore X0.here hx rfl (hb hby at_46) rfl (l' := #[.val (.int p0), .val (.int p1), .val (.int p2), .val (.int p3), .val (.int z1), .val (.int z2), .val (.int ((((p0).toUInt32 >>> ((2 : Int32) &&& 31).toUInt32).toInt32) &&& (3 : Int32))), .val (.int ((((p0).toUInt32 >>> ((4 : Int32) &&& 31).toUInt32).toInt32) &&& (1 : Int32))), .val (.double (FP.i2d (p1 % (1000 : Int32)))), .second, .unset, .unset, .unset, .unset, .unset, .unset, .unset, .unset]) rfl k) ?_
      refine go (T' := s₁) (f' := (mkF m 49 #[.val (.int p0), .val (.int p1), .val (.int p2), .val (.int p3), .val (.int z1), .val (.int z2), .val (.int ((((p0).toUInt32 >>> ((2 : Int32) &&& 31).toUInt32).toInt32) &&& (3 : Int32))), .val (.int ((((p0).toUInt32 >>> ((4 : Int32) &&& 31).toUInt32).toInt32) &&& (1 : Int32))), .val (.double (FP.i2d (p1 % (1000 : Int32)))), .second, .unset, .unset, .unset, .unset, .unset, .unset, .unset, .unset] [(.int p2)])) (by intro t k; exact XS.iloadN X0.here hx rfl (hb hby at_48) rfl k) ?_
      refine go (T' := s₁) (f' := (mkF m 52 #[.val (.int p0), .val (.int p1), .val (.int p2), .val (.int p3), .val (.int z1), .val (.int z2), .val (.int ((((p0).toUInt32 >>> ((2 : Int32) &&& 31).toUInt32).toInt32) &&& (3 : Int32))), .val (.int ((((p0).toUInt32 >>> ((4 : Int32) &&& 31).toUInt32).toInt32) &&& (1 : Int32))), .val (.double (FP.i2d (p1 % (1000 : Int32)))), .second, .unset, .unset, .unset, .unset, .unset, .unset, .unset, .unset] [(.int (1000 : Int32)), (.int p2)])) (by intro t k; exact XS.sipush X0.here hx rfl (hb hby at_49) k) ?_
      refine go (T' := s₁) (f' := (mkF m 53 #[.val (.int p0), .val (.int p1), .val (.int p2), .val (.int p3), .val (.int z1), .val (.int z2), .val (.int ((((p0).toUInt32 >>> ((2 : Int32) &&& 31).toUInt32).toInt32) &&& (3 : Int32))), .val (.int ((((p0).toUInt32 >>> ((4 : Int32) &&& 31).toUInt32).toInt32) &&& (1 : Int32))), .val (.double (FP.i2d (p1 % (1000 : Int32)))), .second, .unset, .unset, .unset, .unset, .unset, .unset, .unset, .unset] [(.int (p2 % (1000 : Int32)))])) (by intro t k; exact iremM X0 hx rfl (hb hby at_52) rfl (by decide) k) ?_
      refine go (T' := s₁) (f' := (mkF m 54 #[.val (.int p0), .val (.int p1), .val (.int p2), .val (.int p3), .val (.int z1), .val (.int z2), .val (.int ((((p0).toUInt32 >>> ((2 : Int32) &&& 31).toUInt32).toInt32) &&& (3 : Int32))), .val (.int ((((p0).toUInt32 >>> ((4 : Int32) &&& 31).toUInt32).toInt32) &&& (1 : Int32))), .val (.double (FP.i2d (p1 % (1000 : Int32)))), .second, .unset, .unset, .unset, .unset, .unset, .unset, .unset, .unset] [(.double (FP.i2d (p2 % (1000 : Int32))))])) (by intro t k; exact XS.i2dS X0.here hx rfl (hb hby at_53) rfl rfl k) ?_
      refine go (T' := s₁) (f' := (mkF m 56 #[.val (.int p0), .val (.int p1), .val (.int p2), .val (.int p3), .val (.int z1), .val (.int z2), .val (.int ((((p0).toUInt32 >>> ((2 : Int32) &&& 31).toUInt32).toInt32) &&& (3 : Int32))), .val (.int ((((p0).toUInt32 >>> ((4 : Int32) &&& 31).toUInt32).toInt32) &&& (1 : Int32))), .val (.double (FP.i2d (p1 % (1000 : Int32)))), .second, .val (.double (FP.i2d (p2 % (1000 : Int32)))), .second, .unset, .unset, .unset, .unset, .unset, .unset] [])) (by intro t k; exact XS.dstore X0.here hx rfl (hb hby at_54) rfl (l' := #[.val (.int p0), .val (.int p1), .val (.int p2), .val (.int p3), .val (.int z1), .val (.int z2), .val (.int ((((p0).toUInt32 >>> ((2 : Int32) &&& 31).toUInt32).toInt32) &&& (3 : Int32))), .val (.int ((((p0).toUInt32 >>> ((4 : Int32) &&& 31).toUInt32).toInt32) &&& (1 : Int32))), .val (.double (FP.i2d (p1 % (1000 : Int32)))), .second, .val (.double (FP.i2d (p2 % (1000 : Int32)))), .second, .unset, .unset, .unset, .unset, .unset, .unset]) rfl k) ?_
      refine go (T' := s₁) (f' := (mkF m 57 #[.val (.int p0), .val (.int p1), .val (.int p2), .val (.int p3), .val (.int z1), .val (.int z2), .val (.int ((((p0).toUInt32 >>> ((2 : Int32) &&& 31).toUInt32).toInt32) &&& (3 : Int32))), .val (.int ((((p0).toUInt32 >>> ((4 : Int32) &&& 31).toUInt32).toInt32) &&& (1 : Int32))), .val (.double (FP.i2d (p1 % (1000 : Int32)))), .second, .val (.double (FP.i2d (p2 % (1000 : Int32)))), .second, .unset, .unset, .unset, .unset, .unset, .unset] [(.int p3)])) (by intro t k; exact XS.iloadN X0.here hx rfl (hb hby at_56) rfl k) ?_
      refine go (T' := s₁) (f' := (mkF m 60 #[.val (.int p0), .val (.int p1), .val (.int p2), .val (.int p3), .val (.int z1), .val (.int z2), .val (.int ((((p0).toUInt32 >>> ((2 : Int32) &&& 31).toUInt32).toInt32) &&& (3 : Int32))), .val (.int ((((p0).toUInt32 >>> ((4 : Int32) &&& 31).toUInt32).toInt32) &&& (1 : Int32))), .val (.double (FP.i2d (p1 % (1000 : Int32)))), .second, .val (.double (FP.i2d (p2 % (1000 : Int32)))), .second, .unset, .unset, .unset, .unset, .unset, .unset] [(.int (1000 : Int32)), (.int p3)])) (by intro t k; exact XS.sipush X0.here hx rfl (hb hby at_57) k) ?_
      refine go (T' := s₁) (f' := (mkF m 61 #[.val (.int p0), .val (.int p1), .val (.int p2), .val (.int p3), .val (.int z1), .val (.int z2), .val (.int ((((p0).toUInt32 >>> ((2 : Int32) &&& 31).toUInt32).toInt32) &&& (3 : Int32))), .val (.int ((((p0).toUInt32 >>> ((4 : Int32) &&& 31).toUInt32).toInt32) &&& (1 : Int32))), .val (.double (FP.i2d (p1 % (1000 : Int32)))), .second, .val (.double (FP.i2d (p2 % (1000 : Int32)))), .second, .unset, .unset, .unset, .unset, .unset, .unset] [(.int (p3 % (1000 : Int32)))])) (by intro t k; exact iremM X0 hx rfl (hb hby at_60) rfl (by decide) k) ?_
      refine go (T' := s₁) (f' := (mkF m 62 #[.val (.int p0), .val (.int p1), .val (.int p2), .val (.int p3), .val (.int z1), .val (.int z2), .val (.int ((((p0).toUInt32 >>> ((2 : Int32) &&& 31).toUInt32).toInt32) &&& (3 : Int32))), .val (.int ((((p0).toUInt32 >>> ((4 : Int32) &&& 31).toUInt32).toInt32) &&& (1 : Int32))), .val (.double (FP.i2d (p1 % (1000 : Int32)))), .second, .val (.double (FP.i2d (p2 % (1000 : Int32)))), .second, .unset, .unset, .unset, .unset, .unset, .unset] [(.double (FP.i2d (p3 % (1000 : Int32))))])) (by intro t k; exact XS.i2dS X0.here hx rfl (hb hby at_61) rfl rfl k) ?_
      refine go (T' := s₁) (f' := (mkF m 64 #[.val (.int p0), .val (.int p1), .val (.int p2), .val (.int p3), .val (.int z1), .val (.int z2), .val (.int ((((p0).toUInt32 >>> ((2 : Int32) &&& 31).toUInt32).toInt32) &&& (3 : Int32))), .val (.int ((((p0).toUInt32 >>> ((4 : Int32) &&& 31).toUInt32).toInt32) &&& (1 : Int32))), .val (.double (FP.i2d (p1 % (1000 : Int32)))), .second, .val (.double (FP.i2d (p2 % (1000 : Int32)))), .second, .val (.double (FP.i2d (p3 % (1000 : Int32)))), .second, .unset, .unset, .unset, .unset] [])) (by intro t k; exact XS.dstore X0.here hx rfl (hb hby at_62) rfl (l' := #[.val (.int p0), .val (.int p1), .val (.int p2), .val (.int p3), .val (.int z1), .val (.int z2), .val (.int ((((p0).toUInt32 >>> ((2 : Int32) &&& 31).toUInt32).toInt32) &&& (3 : Int32))), .val (.int ((((p0).toUInt32 >>> ((4 : Int32) &&& 31).toUInt32).toInt32) &&& (1 : Int32))), .val (.double (FP.i2d (p1 % (1000 : Int32)))), .second, .val (.double (FP.i2d (p2 % (1000 : Int32)))), .second, .val (.double (FP.i2d (p3 % (1000 : Int32)))), .second, .unset, .unset, .unset, .unset]) rfl k) ?_
      obtain ⟨e0d, he0d⟩ : ∃ z : UInt64, z = (FP.i2d (p1 % (1000 : Int32))) := ⟨_, rfl⟩
      rw [← he0d]
      obtain ⟨e1d, he1d⟩ : ∃ z : UInt64, z = (FP.i2d (p2 % (1000 : Int32))) := ⟨_, rfl⟩
      rw [← he1d]
      obtain ⟨e2d, he2d⟩ : ∃ z : UInt64, z = (FP.i2d (p3 % (1000 : Int32))) := ⟨_, rfl⟩
      rw [← he2d]
      show Run _ _ _ _ _ _ _ s₁ (mkF m 64 #[.val (.int p0), .val (.int p1), .val (.int p2), .val (.int p3), .val (.int z1), .val (.int z2), .val (.int ((((p0).toUInt32 >>> ((2 : Int32) &&& 31).toUInt32).toInt32) &&& (3 : Int32))), .val (.int ((((p0).toUInt32 >>> ((4 : Int32) &&& 31).toUInt32).toInt32) &&& (1 : Int32))), .val (.double e0d), .second, .val (.double e1d), .second, .val (.double e2d), .second, .unset, .unset, .unset, .unset] [])
      obtain ⟨T3, h3, X3, e3, E3, A3, D3, -, st3⟩ := newO X0 hx hZ hown (tw hw 0 rfl) (tw hw 1 rfl) (tw hw 2 rfl) e0 (g := (mkF m 64 #[.val (.int p0), .val (.int p1), .val (.int p2), .val (.int p3), .val (.int z1), .val (.int z2), .val (.int ((((p0).toUInt32 >>> ((2 : Int32) &&& 31).toUInt32).toInt32) &&& (3 : Int32))), .val (.int ((((p0).toUInt32 >>> ((4 : Int32) &&& 31).toUInt32).toInt32) &&& (1 : Int32))), .val (.double e0d), .second, .val (.double e1d), .second, .val (.double e2d), .second, .unset, .unset, .unset, .unset] [])) rfl (hb hby at_64) (by decide) (by decide)
      obtain ⟨b3, g3⟩ : ∃ z, z = h0.size := ⟨_, rfl⟩
      rw [← g3] at A3 D3 st3
      have ge_b3 : n0 ≤ b3 := Nat.le_trans Z0 (Nat.le_of_eq g3.symm)
      have K3 : Keep h0 h3 [] := (Keep.refl _ _).ext E3
      have Z3 : n0 ≤ h3.size := Nat.le_trans Z0 K3.1
      have F3_b3_heap : Fld Z h3 b3 "com/example/wayshard/wayshard/service/VertexQueue" "heap" "[I" .null := D3 (Or.inr (tw hw 11 rfl)) (ty := (.array .int)) (by decide)
      have F3_b3_priorities : Fld Z h3 b3 "com/example/wayshard/wayshard/service/VertexQueue" "priorities" "[D" .null := D3 (Or.inr (tw hw 14 rfl)) (ty := (.array .double)) (by decide)
      have F3_b3_places : Fld Z h3 b3 "com/example/wayshard/wayshard/service/VertexQueue" "places" "[I" .null := D3 (Or.inr (tw hw 16 rfl)) (ty := (.array .int)) (by decide)
      have F3_b3_size : Fld Z h3 b3 "com/example/wayshard/wayshard/service/VertexQueue" "size" "I" (.int (0 : Int32)) := D3 (Or.inl (tw hw 31 rfl)) (ty := .int) (by decide)
      have F3_b3_taken : Fld Z h3 b3 "com/example/wayshard/wayshard/service/VertexQueue" "taken" "I" (.int (0 : Int32)) := D3 (Or.inl (tw hw 33 rfl)) (ty := .int) (by decide)
      refine go st3 ?_
      show Run _ _ _ _ _ _ _ T3 (mkF m 67 #[.val (.int p0), .val (.int p1), .val (.int p2), .val (.int p3), .val (.int z1), .val (.int z2), .val (.int ((((p0).toUInt32 >>> ((2 : Int32) &&& 31).toUInt32).toInt32) &&& (3 : Int32))), .val (.int ((((p0).toUInt32 >>> ((4 : Int32) &&& 31).toUInt32).toInt32) &&& (1 : Int32))), .val (.double e0d), .second, .val (.double e1d), .second, .val (.double e2d), .second, .unset, .unset, .unset, .unset] [(.ref b3)])
      refine go (T' := T3) (f' := (mkF m 68 #[.val (.int p0), .val (.int p1), .val (.int p2), .val (.int p3), .val (.int z1), .val (.int z2), .val (.int ((((p0).toUInt32 >>> ((2 : Int32) &&& 31).toUInt32).toInt32) &&& (3 : Int32))), .val (.int ((((p0).toUInt32 >>> ((4 : Int32) &&& 31).toUInt32).toInt32) &&& (1 : Int32))), .val (.double e0d), .second, .val (.double e1d), .second, .val (.double e2d), .second, .unset, .unset, .unset, .unset] [(.ref b3), (.ref b3)])) (by intro t k; exact XS.dup X3.here hx rfl (hb hby at_67) rfl rfl k) ?_
      refine go (T' := T3) (f' := (mkF m 69 #[.val (.int p0), .val (.int p1), .val (.int p2), .val (.int p3), .val (.int z1), .val (.int z2), .val (.int ((((p0).toUInt32 >>> ((2 : Int32) &&& 31).toUInt32).toInt32) &&& (3 : Int32))), .val (.int ((((p0).toUInt32 >>> ((4 : Int32) &&& 31).toUInt32).toInt32) &&& (1 : Int32))), .val (.double e0d), .second, .val (.double e1d), .second, .val (.double e2d), .second, .unset, .unset, .unset, .unset] [(.int (2 : Int32)), (.ref b3), (.ref b3)])) (by intro t k; exact XS.iconst X3.here hx rfl (hb hby at_68) k) ?_
      obtain ⟨_, _, ⟨T4, Lz4, kz4, nz4⟩, -, X4, ⟨Lc4, hQ4, lz4, yz4, zz4⟩, st4⟩ := X3.specialBack hx (y := mInit) rfl hown (mvT hZ (tw hw 3 rfl)) (mvT hZ (tw hw 4 rfl)) (mvT hZ (tw hw 5 rfl)) (by decide) (backOf (W := 1) (rm1 l Z aw hw [] b3  h3 n0 Z3 A3 F3_b3_heap F3_b3_priorities F3_b3_places F3_b3_size F3_b3_taken ge_b3) hZ (tw hw 5 rfl) (tw hw 2 rfl) (by decide) (by decide)) (g := (mkF m 69 #[.val (.int p0), .val (.int p1), .val (.int p2), .val (.int p3), .val (.int z1), .val (.int z2), .val (.int ((((p0).toUInt32 >>> ((2 : Int32) &&& 31).toUInt32).toInt32) &&& (3 : Int32))), .val (.int ((((p0).toUInt32 >>> ((4 : Int32) &&& 31).toUInt32).toInt32) &&& (1 : Int32))), .val (.double e0d), .second, .val (.double e1d), .second, .val (.double e2d), .second, .unset, .unset, .unset, .unset] [(.int (2 : Int32)), (.ref b3), (.ref b3)])) rfl (by rw [hml]; rfl) (Steps.refl _) (a := b3) (argsL := [(.int (2 : Int32))]) (rest := [(.ref b3)]) (lenOf pd_28I29V rfl) rfl (by show 2 * 0 + _ ≤ _; exact Nat.le_of_eq rfl) (hb hby at_69) (fun _ _ => ⟨rfl, e3, (by decide : 1 + 3 ≤ _), (by decide : 5 + 6 ≤ _)⟩)
      dsimp only [Pt.U, Pt.locs, Pt.cells, Pt.slots] at X4 lz4 yz4 zz4 st4 hQ4
      subst lz4 yz4 zz4
      obtain ⟨rfl, N4q, K4, bh, bd, bp, sh, sd, sp, hD4⟩ := hQ4
      have ne_b3_bh : b3 ≠ bh := Nat.ne_of_lt (Nat.lt_of_lt_of_le A3.lt sh)
      have ge_bh : n0 ≤ bh := Nat.le_trans Z3 sh
      have ne_b3_bd : b3 ≠ bd := Nat.ne_of_lt (Nat.lt_of_lt_of_le A3.lt sd)
      have ge_bd : n0 ≤ bd := Nat.le_trans Z3 sd
      have ne_b3_bp : b3 ≠ bp := Nat.ne_of_lt (Nat.lt_of_lt_of_le A3.lt sp)
      have ge_bp : n0 ≤ bp := Nat.le_trans Z3 sp
      have E4_b3 := Exa.keep A3 K4
      have Z4 : n0 ≤ T4.heap.size := Nat.le_trans Z3 K4.1
      obtain ⟨E4, Fh4, Fd4, Fp4, Fs4, Ft4, Ah4, Ad4, Ap4, g04, gh4, gd4, gp4, n0h4, n0d4, n0p4, nhd4, nhp4, ndp4⟩ := hD4
      have N4 := Fr.app N0 N4q
      refine go (fun _ k => st4.trans k) ?_
      show Run _ _ _ _ _ _ _ T4 (mkF m 72 #[.val (.int p0), .val (.int p1), .val (.int p2), .val (.int p3), .val (.int z1), .val (.int z2), .val (.int ((((p0).toUInt32 >>> ((2 : Int32) &&& 31).toUInt32).toInt32) &&& (3 : Int32))), .val (.int ((((p0).toUInt32 >>> ((4 : Int32) &&& 31).toUInt32).toInt32) &&& (1 : Int32))), .val (.double e0d), .second, .val (.double e1d), .second, .val (.double e2d), .second, .unset, .unset, .unset, .unset] [(.ref b3)])
      refine go (T' := T4) (f' := (mkF m 74 #[.val (.int p0), .val (.int p1), .val (.int p2), .val (.int p3), .val (.int z1), .val (.int z2), .val (.int ((((p0).toUInt32 >>> ((2 : Int32) &&& 31).toUInt32).toInt32) &&& (3 : Int32))), .val (.int ((((p0).toUInt32 >>> ((4 : Int32) &&& 31).toUInt32).toInt32) &&& (1 : Int32))), .val (.double e0d), .second, .val (.double e1d), .second, .val (.double e2d), .second, .val (.ref b3), .unset, .unset, .unset] [])) (by intro t k; exact XS.astore X4.here hx rfl (hb hby at_72) rfl rfl (l' := #[.val (.int p0), .val (.int p1), .val (.int p2), .val (.int p3), .val (.int z1), .val (.int z2), .val (.int ((((p0).toUInt32 >>> ((2 : Int32) &&& 31).toUInt32).toInt32) &&& (3 : Int32))), .val (.int ((((p0).toUInt32 >>> ((4 : Int32) &&& 31).toUInt32).toInt32) &&& (1 : Int32))), .val (.double e0d), .second, .val (.double e1d), .second, .val (.double e2d), .second, .val (.ref b3), .unset, .unset, .unset]) rfl k) ?_
      refine go (T' := T4) (f' := (mkF m 75 #[.val (.int p0), .val (.int p1), .val (.int p2), .val (.int p3), .val (.int z1), .val (.int z2), .val (.int ((((p0).toUInt32 >>> ((2 : Int32) &&& 31).toUInt32).toInt32) &&& (3 : Int32))), .val (.int ((((p0).toUInt32 >>> ((4 : Int32) &&& 31).toUInt32).toInt32) &&& (1 : Int32))), .val (.double e0d), .second, .val (.double e1d), .second, .val (.double e2d), .second, .val (.ref b3), .unset, .unset, .unset] [(.int (0 : Int32))])) (by intro t k; exact XS.iconst X4.here hx rfl (hb hby at_74) k) ?_
      refine go (T' := T4) (f' := (mkF m 77 #[.val (.int p0), .val (.int p1), .val (.int p2), .val (.int p3), .val (.int z1), .val (.int z2), .val (.int ((((p0).toUInt32 >>> ((2 : Int32) &&& 31).toUInt32).toInt32) &&& (3 : Int32))), .val (.int ((((p0).toUInt32 >>> ((4 : Int32) &&& 31).toUInt32).toInt32) &&& (1 : Int32))), .val (.double e0d), .second, .val (.double e1d), .second, .val (.double e2d), .second, .val (.ref b3), .val (.int (0 : Int32)), .unset, .unset] [])) (by intro t k; exact XS.istore X4.here hx rfl (hb hby at_75) rfl (l' := #[.val (.int p0), .val (.int p1), .val (.int p2), .val (.int p3), .val (.int z1), .val (.int z2), .val (.int ((((p0).toUInt32 >>> ((2 : Int32) &&& 31).toUInt32).toInt32) &&& (3 : Int32))), .val (.int ((((p0).toUInt32 >>> ((4 : Int32) &&& 31).toUInt32).toInt32) &&& (1 : Int32))), .val (.double e0d), .second, .val (.double e1d), .second, .val (.double e2d), .second, .val (.ref b3), .val (.int (0 : Int32)), .unset, .unset]) rfl k) ?_
      have JC : ∀ (u0 u1 : Int32) (x0 x1 : UInt64) (s4 s5 s6 s15 s16 : Slot) (Tc : State) (hc : Heap) (lc : List Loc), Stand p l e room_1 s m #[(.int p0), (.int p1), (.int p2), (.int p3)] below meth c Tc lc 4 11 → Tc.heap = hc → Fr n0 lc → n0 ≤ hc.size → own_st Z n0 hc b3 bh bd bp u0 u1 (-1 : Int32) (-1 : Int32) (0 : Int32) (0 : Int32) x0 x1 → Run p e s below (Q0 Z p0 p1 p2 p3 h0 n0) room_1.cells room_1.slots Tc (mkF m 147 #[.val (.int p0), .val (.int p1), .val (.int p2), .val (.int p3), s4, s5, s6, .val (.int ((((p0).toUInt32 >>> ((4 : Int32) &&& 31).toUInt32).toInt32) &&& (1 : Int32))), .val (.double e0d), .second, .val (.double e1d), .second, .val (.double e2d), .second, .val (.ref b3), s15, s16, .unset] []) := by
        intro u0 u1 x0 x1 s4 s5 s6 s15 s16 Tc hc lc Xc ec Nc Zc St
        obtain ⟨Ec, Fhc, Fdc, Fpc, Fsc, Ftc, Ahc, Adc, Apc, g0c, ghc, gdc, gpc, n0hc, n0dc, n0pc, nhdc, nhpc, ndpc⟩ := St
        show Run _ _ _ _ _ _ _ Tc (mkF m 147 #[.val (.int p0), .val (.int p1), .val (.int p2), .val (.int p3), s4, s5, s6, .val (.int ((((p0).toUInt32 >>> ((4 : Int32) &&& 31).toUInt32).toInt32) &&& (1 : Int32))), .val (.double e0d), .second, .val (.double e1d), .second, .val (.double e2d), .second, .val (.ref b3), s15, s16, .unset] [])
        refine go (T' := Tc) (f' := (mkF m 149 #[.val (.int p0), .val (.int p1), .val (.int p2), .val (.int p3), s4, s5, s6, .val (.int ((((p0).toUInt32 >>> ((4 : Int32) &&& 31).toUInt32).toInt32) &&& (1 : Int32))), .val (.double e0d), .second, .val (.double e1d), .second, .val (.double e2d), .second, .val (.ref b3), s15, s16, .unset] [(.ref b3)])) (by intro t k; exact XS.aload Xc.here hx rfl (hb hby at_147) rfl rfl k) ?_
        obtain ⟨cq5, kq5, q5a, q5b, q5c⟩ := isOf hZ ec Ec
        obtain ⟨_, _, ⟨T5, Lz5, kz5, nz5⟩, -, X5, ⟨Lc5, hQ5, lz5, yz5, zz5⟩, st5⟩ := Xc.virtualBack hx (y := misEmpty) (z := misEmpty) hown (mvT hZ (tw hw 34 rfl)) (mvT hZ (tw hw 35 rfl)) (notFace_of_selects (args := #[]) (mvT hZ (tw hw 37 rfl))) (mvT hZ (tw hw 37 rfl)) (mvT hZ (tw hw 36 rfl)) (by decide) (backOf (W := 0) (rm6t0 l Z aw hw [] b3 bh bd bp x0 x1 u0 u1 hc n0 Zc ⟨Ec, Fhc, Fdc, Fpc, Fsc, Ftc, Ahc, Adc, Apc, g0c, ghc, gdc, gpc, n0hc, n0dc, n0pc, nhdc, nhpc, ndpc⟩) hZ (tw hw 38 rfl) (tw hw 2 rfl) (by decide) (by decide)) q5a q5c (g := (mkF m 149 #[.val (.int p0), .val (.int p1), .val (.int p2), .val (.int p3), s4, s5, s6, .val (.int ((((p0).toUInt32 >>> ((4 : Int32) &&& 31).toUInt32).toInt32) &&& (1 : Int32))), .val (.double e0d), .second, .val (.double e1d), .second, .val (.double e2d), .second, .val (.ref b3), s15, s16, .unset] [(.ref b3)])) rfl (by rw [hml]; rfl) (Steps.refl _) (argsL := []) (rest := []) (lenOf pd_2829Z rfl) rfl (by show 2 * 0 + _ ≤ _; exact Nat.le_of_eq rfl) (hb hby at_149) (fun _ _ => ⟨rfl, ec, (by decide : 4 + 0 ≤ _), (by decide : 11 + 0 ≤ _)⟩)
        dsimp only [Pt.U, Pt.locs, Pt.cells, Pt.slots] at X5 lz5 yz5 zz5 st5 hQ5
        subst lz5 yz5 zz5
        obtain ⟨rfl, N5q, K5, hD5⟩ := hQ5
        have E5_b3 := Exa.keep Ec K5
        have Z5 : n0 ≤ T5.heap.size := Nat.le_trans Zc K5.1
        obtain ⟨E5, Fh5, Fd5, Fp5, Fs5, Ft5, Ah5, Ad5, Ap5, g05, gh5, gd5, gp5, n0h5, n0d5, n0p5, nhd5, nhp5, ndp5⟩ := hD5
        have N5 := Fr.app Nc N5q
        refine go (fun _ k => st5.trans k) ?_
        show Run _ _ _ _ _ _ _ T5 (mkF m 152 #[.val (.int p0), .val (.int p1), .val (.int p2), .val (.int p3), s4, s5, s6, .val (.int ((((p0).toUInt32 >>> ((4 : Int32) &&& 31).toUInt32).toInt32) &&& (1 : Int32))), .val (.double e0d), .second, .val (.double e1d), .second, .val (.double e2d), .second, .val (.ref b3), s15, s16, .unset] [(.int (1 : Int32))])
        refine go (T' := T5) (f' := (mkF m 157 #[.val (.int p0), .val (.int p1), .val (.int p2), .val (.int p3), s4, s5, s6, .val (.int ((((p0).toUInt32 >>> ((4 : Int32) &&& 31).toUInt32).toInt32) &&& (1 : Int32))), .val (.double e0d), .second, .val (.double e1d), .second, .val (.double e2d), .second, .val (.ref b3), s15, s16, .unset] [])) (by intro t k; exact XS.ifYes X5.here hx rfl (pc0 := 152) (pc' := 157) rfl (hb hby at_152) rfl ((if0 _ _).trans (feq (by decide : ¬ ((1 : Int32) = (0 : Int32)))).2) (by decide) (by decide) k) ?_
        refine go (T' := T5) (f' := (mkF m 159 #[.val (.int p0), .val (.int p1), .val (.int p2), .val (.int p3), s4, s5, s6, .val (.int ((((p0).toUInt32 >>> ((4 : Int32) &&& 31).toUInt32).toInt32) &&& (1 : Int32))), .val (.double e0d), .second, .val (.double e1d), .second, .val (.double e2d), .second, .val (.ref b3), s15, s16, .unset] [(.ref b3)])) (by intro t k; exact XS.aload X5.here hx rfl (hb hby at_157) rfl rfl k) ?_
        refine go (T' := T5) (f' := (mkF m 160 #[.val (.int p0), .val (.int p1), .val (.int p2), .val (.int p3), s4, s5, s6, .val (.int ((((p0).toUInt32 >>> ((4 : Int32) &&& 31).toUInt32).toInt32) &&& (1 : Int32))), .val (.double e0d), .second, .val (.double e1d), .second, .val (.double e2d), .second, .val (.ref b3), s15, s16, .unset] [(.int (0 : Int32)), (.ref b3)])) (by intro t k; exact XS.iconst X5.here hx rfl (hb hby at_159) k) ?_
        obtain ⟨cq6, kq6, q6a, q6b, q6c⟩ := isOf hZ rfl E5
        obtain ⟨_, _, ⟨T6, Lz6, kz6, nz6⟩, -, X6, ⟨Lc6, hQ6, lz6, yz6, zz6⟩, st6⟩ := X5.virtualBack hx (y := misTaken) (z := misTaken) hown (mvT hZ (tw hw 39 rfl)) (mvT hZ (tw hw 40 rfl)) (notFace_of_selects (args := #[]) (mvT hZ (tw hw 42 rfl))) (mvT hZ (tw hw 42 rfl)) (mvT hZ (tw hw 41 rfl)) (by decide) (backOf (W := 0) (rm7t1 l Z aw hw [] b3 bh bd bp x0 x1 u0 u1 T5.heap n0 Z5 ⟨E5, Fh5, Fd5, Fp5, Fs5, Ft5, Ah5, Ad5, Ap5, g05, gh5, gd5, gp5, n0h5, n0d5, n0p5, nhd5, nhp5, ndp5⟩) hZ (tw hw 43 rfl) (tw hw 2 rfl) (by decide) (by decide)) q6a q6c (g := (mkF m 160 #[.val (.int p0), .val (.int p1), .val (.int p2), .val (.int p3), s4, s5, s6, .val (.int ((((p0).toUInt32 >>> ((4 : Int32) &&& 31).toUInt32).toInt32) &&& (1 : Int32))), .val (.double e0d), .second, .val (.double e1d), .second, .val (.double e2d), .second, .val (.ref b3), s15, s16, .unset] [(.int (0 : Int32)), (.ref b3)])) rfl (by rw [hml]; rfl) (Steps.refl _) (argsL := [(.int (0 : Int32))]) (rest := []) (lenOf pd_28I29Z rfl) rfl (by show 2 * 0 + _ ≤ _; exact Nat.le_of_eq rfl) (hb hby at_160) (fun _ _ => ⟨rfl, rfl, (by decide : 4 + 0 ≤ _), (by decide : 11 + 0 ≤ _)⟩)
        dsimp only [Pt.U, Pt.locs, Pt.cells, Pt.slots] at X6 lz6 yz6 zz6 st6 hQ6
        subst lz6 yz6 zz6
        obtain ⟨rfl, N6q, K6, hD6⟩ := hQ6
        have E6_b3 := Exa.keep E5 K6
        have Z6 : n0 ≤ T6.heap.size := Nat.le_trans Z5 K6.1
        obtain ⟨E6, Fh6, Fd6, Fp6, Fs6, Ft6, Ah6, Ad6, Ap6, g06, gh6, gd6, gp6, n0h6, n0d6, n0p6, nhd6, nhp6, ndp6⟩ := hD6
        have N6 := Fr.app N5 N6q
        refine go (fun _ k => st6.trans k) ?_
        show Run _ _ _ _ _ _ _ T6 (mkF m 163 #[.val (.int p0), .val (.int p1), .val (.int p2), .val (.int p3), s4, s5, s6, .val (.int ((((p0).toUInt32 >>> ((4 : Int32) &&& 31).toUInt32).toInt32) &&& (1 : Int32))), .val (.double e0d), .second, .val (.double e1d), .second, .val (.double e2d), .second, .val (.ref b3), s15, s16, .unset] [(.int (0 : Int32))])
        refine go (T' := T6) (f' := (mkF m 166 #[.val (.int p0), .val (.int p1), .val (.int p2), .val (.int p3), s4, s5, s6, .val (.int ((((p0).toUInt32 >>> ((4 : Int32) &&& 31).toUInt32).toInt32) &&& (1 : Int32))), .val (.double e0d), .second, .val (.double e1d), .second, .val (.double e2d), .second, .val (.ref b3), s15, s16, .unset] [])) (by intro t k; exact XS.ifNo X6.here hx rfl (hb hby at_163) rfl ((if0 _ _).trans (teq (rfl : (0 : Int32) = (0 : Int32))).2) k) ?_
        refine go (T' := T6) (f' := (mkF m 168 #[.val (.int p0), .val (.int p1), .val (.int p2), .val (.int p3), s4, s5, s6, .val (.int ((((p0).toUInt32 >>> ((4 : Int32) &&& 31).toUInt32).toInt32) &&& (1 : Int32))), .val (.double e0d), .second, .val (.double e1d), .second, .val (.double e2d), .second, .val (.ref b3), s15, s16, .unset] [(.ref b3)])) (by intro t k; exact XS.aload X6.here hx rfl (hb hby at_166) rfl rfl k) ?_
        refine go (T' := T6) (f' := (mkF m 169 #[.val (.int p0), .val (.int p1), .val (.int p2), .val (.int p3), s4, s5, s6, .val (.int ((((p0).toUInt32 >>> ((4 : Int32) &&& 31).toUInt32).toInt32) &&& (1 : Int32))), .val (.double e0d), .second, .val (.double e1d), .second, .val (.double e2d), .second, .val (.ref b3), s15, s16, .unset] [(.int (1 : Int32)), (.ref b3)])) (by intro t k; exact XS.iconst X6.here hx rfl (hb hby at_168) k) ?_
        obtain ⟨cq7, kq7, q7a, q7b, q7c⟩ := isOf hZ rfl E6
        obtain ⟨_, _, ⟨T7, Lz7, kz7, nz7⟩, -, X7, ⟨Lc7, hQ7, lz7, yz7, zz7⟩, st7⟩ := X6.virtualBack hx (y := misTaken) (z := misTaken) hown (mvT hZ (tw hw 39 rfl)) (mvT hZ (tw hw 40 rfl)) (notFace_of_selects (args := #[]) (mvT hZ (tw hw 42 rfl))) (mvT hZ (tw hw 42 rfl)) (mvT hZ (tw hw 41 rfl)) (by decide) (backOf (W := 0) (rm7t2 l Z aw hw [] b3 bh bd bp x0 x1 u0 u1 T6.heap n0 Z6 ⟨E6, Fh6, Fd6, Fp6, Fs6, Ft6, Ah6, Ad6, Ap6, g06, gh6, gd6, gp6, n0h6, n0d6, n0p6, nhd6, nhp6, ndp6⟩) hZ (tw hw 43 rfl) (tw hw 2 rfl) (by decide) (by decide)) q7a q7c (g := (mkF m 169 #[.val (.int p0), .val (.int p1), .val (.int p2), .val (.int p3), s4, s5, s6, .val (.int ((((p0).toUInt32 >>> ((4 : Int32) &&& 31).toUInt32).toInt32) &&& (1 : Int32))), .val (.double e0d), .second, .val (.double e1d), .second, .val (.double e2d), .second, .val (.ref b3), s15, s16, .unset] [(.int (1 : Int32)), (.ref b3)])) rfl (by rw [hml]; rfl) (Steps.refl _) (argsL := [(.int (1 : Int32))]) (rest := []) (lenOf pd_28I29Z rfl) rfl (by show 2 * 0 + _ ≤ _; exact Nat.le_of_eq rfl) (hb hby at_169) (fun _ _ => ⟨rfl, rfl, (by decide : 4 + 0 ≤ _), (by decide : 11 + 0 ≤ _)⟩)
        dsimp only [Pt.U, Pt.locs, Pt.cells, Pt.slots] at X7 lz7 yz7 zz7 st7 hQ7
        subst lz7 yz7 zz7
        obtain ⟨rfl, N7q, K7, hD7⟩ := hQ7
        have E7_b3 := Exa.keep E6 K7
        have Z7 : n0 ≤ T7.heap.size := Nat.le_trans Z6 K7.1
        obtain ⟨E7, Fh7, Fd7, Fp7, Fs7, Ft7, Ah7, Ad7, Ap7, g07, gh7, gd7, gp7, n0h7, n0d7, n0p7, nhd7, nhp7, ndp7⟩ := hD7
        have N7 := Fr.app N6 N7q
        refine go (fun _ k => st7.trans k) ?_
        show Run _ _ _ _ _ _ _ T7 (mkF m 172 #[.val (.int p0), .val (.int p1), .val (.int p2), .val (.int p3), s4, s5, s6, .val (.int ((((p0).toUInt32 >>> ((4 : Int32) &&& 31).toUInt32).toInt32) &&& (1 : Int32))), .val (.double e0d), .second, .val (.double e1d), .second, .val (.double e2d), .second, .val (.ref b3), s15, s16, .unset] [(.int (0 : Int32))])
        refine go (T' := T7) (f' := (mkF m 177 #[.val (.int p0), .val (.int p1), .val (.int p2), .val (.int p3), s4, s5, s6, .val (.int ((((p0).toUInt32 >>> ((4 : Int32) &&& 31).toUInt32).toInt32) &&& (1 : Int32))), .val (.double e0d), .second, .val (.double e1d), .second, .val (.double e2d), .second, .val (.ref b3), s15, s16, .unset] [])) (by intro t k; exact XS.ifYes X7.here hx rfl (pc0 := 172) (pc' := 177) rfl (hb hby at_172) rfl ((if0 _ _).trans (teq (rfl : (0 : Int32) = (0 : Int32))).1) (by decide) (by decide) k) ?_
        obtain ⟨z8, hz8⟩ : ∃ z : Int32, z = ((((p0).toUInt32 >>> ((4 : Int32) &&& 31).toUInt32).toInt32) &&& (1 : Int32)) := ⟨_, rfl⟩
        rw [← hz8]
        rcases (own_bit hz8 : z8 = (0 : Int32) ∨ z8 = (1 : Int32)) with ez | ez
        · subst ez
          show Run _ _ _ _ _ _ _ T7 (mkF m 177 #[.val (.int p0), .val (.int p1), .val (.int p2), .val (.int p3), s4, s5, s6, .val (.int (0 : Int32)), .val (.double e0d), .second, .val (.double e1d), .second, .val (.double e2d), .second, .val (.ref b3), s15, s16, .unset] [])
          refine go (T' := T7) (f' := (mkF m 179 #[.val (.int p0), .val (.int p1), .val (.int p2), .val (.int p3), s4, s5, s6, .val (.int (0 : Int32)), .val (.double e0d), .second, .val (.double e1d), .second, .val (.double e2d), .second, .val (.ref b3), s15, s16, .unset] [(.ref b3)])) (by intro t k; exact XS.aload X7.here hx rfl (hb hby at_177) rfl rfl k) ?_
          refine go (T' := T7) (f' := (mkF m 181 #[.val (.int p0), .val (.int p1), .val (.int p2), .val (.int p3), s4, s5, s6, .val (.int (0 : Int32)), .val (.double e0d), .second, .val (.double e1d), .second, .val (.double e2d), .second, .val (.ref b3), s15, s16, .unset] [(.int (0 : Int32)), (.ref b3)])) (by intro t k; exact XS.iload X7.here hx rfl (hb hby at_179) rfl k) ?_
          refine go (T' := T7) (f' := (mkF m 183 #[.val (.int p0), .val (.int p1), .val (.int p2), .val (.int p3), s4, s5, s6, .val (.int (0 : Int32)), .val (.double e0d), .second, .val (.double e1d), .second, .val (.double e2d), .second, .val (.ref b3), s15, s16, .unset] [(.double e2d), (.int (0 : Int32)), (.ref b3)])) (by intro t k; exact XS.dload X7.here hx rfl (hb hby at_181) rfl k) ?_
          obtain ⟨cq9, kq9, q9a, q9b, q9c⟩ := isOf hZ rfl E7
          obtain ⟨_, _, ⟨T9, Lz9, kz9, nz9⟩, -, X9, ⟨Lc9, hQ9, lz9, yz9, zz9⟩, st9⟩ := X7.virtualBack hx (y := moffer) (z := moffer) hown (mvT hZ (tw hw 44 rfl)) (mvT hZ (tw hw 45 rfl)) (notFace_of_selects (args := #[]) (mvT hZ (tw hw 47 rfl))) (mvT hZ (tw hw 47 rfl)) (mvT hZ (tw hw 46 rfl)) (by decide) (backOf (W := 0) (rm8t3 l Z aw hw [] b3 e2d bh bd bp x0 x1 u0 u1 T7.heap n0 Z7 ⟨E7, Fh7, Fd7, Fp7, Fs7, Ft7, Ah7, Ad7, Ap7, g07, gh7, gd7, gp7, n0h7, n0d7, n0p7, nhd7, nhp7, ndp7⟩) hZ (tw hw 48 rfl) (tw hw 2 rfl) (by decide) (by decide)) q9a q9c (g := (mkF m 183 #[.val (.int p0), .val (.int p1), .val (.int p2), .val (.int p3), s4, s5, s6, .val (.int (0 : Int32)), .val (.double e0d), .second, .val (.double e1d), .second, .val (.double e2d), .second, .val (.ref b3), s15, s16, .unset] [(.double e2d), (.int (0 : Int32)), (.ref b3)])) rfl (by rw [hml]; rfl) (Steps.refl _) (argsL := [(.int (0 : Int32)), (.double e2d)]) (rest := []) (lenOf pd_28ID29V rfl) rfl (by show 2 * 0 + _ ≤ _; exact Nat.le_of_eq rfl) (hb hby at_183) (fun _ _ => ⟨rfl, rfl, (by decide : 4 + 0 ≤ _), (by decide : 11 + 0 ≤ _)⟩)
          dsimp only [Pt.U, Pt.locs, Pt.cells, Pt.slots] at X9 lz9 yz9 zz9 st9 hQ9
          subst lz9 yz9 zz9
          obtain ⟨rfl, N9q, K9, hD9⟩ := hQ9
          have E9_b3 := Exa.keep E7 K9
          have Z9 : n0 ≤ T9.heap.size := Nat.le_trans Z7 K9.1
          obtain ⟨E9, Fh9, Fd9, Fp9, Fs9, Ft9, Ah9, Ad9, Ap9, g09, gh9, gd9, gp9, n0h9, n0d9, n0p9, nhd9, nhp9, ndp9⟩ := hD9
          have N9 := Fr.app N7 N9q
          refine go (fun _ k => st9.trans k) ?_
          show Run _ _ _ _ _ _ _ T9 (mkF m 186 #[.val (.int p0), .val (.int p1), .val (.int p2), .val (.int p3), s4, s5, s6, .val (.int (0 : Int32)), .val (.double e0d), .second, .val (.double e1d), .second, .val (.double e2d), .second, .val (.ref b3), s15, s16, .unset] [])
          refine go (T' := T9) (f' := (mkF m 188 #[.val (.int p0), .val (.int p1), .val (.int p2), .val (.int p3), s4, s5, s6, .val (.int (0 : Int32)), .val (.double e0d), .second, .val (.double e1d), .second, .val (.double e2d), .second, .val (.ref b3), s15, s16, .unset] [(.ref b3)])) (by intro t k; exact XS.aload X9.here hx rfl (hb hby at_186) rfl rfl k) ?_
          obtain ⟨cq10, kq10, q10a, q10b, q10c⟩ := isOf hZ rfl E9
          obtain ⟨_, _, ⟨T10, Lz10, kz10, nz10⟩, -, X10, ⟨Lc10, hQ10, lz10, yz10, zz10⟩, st10⟩ := X9.virtualBack hx (y := misEmpty) (z := misEmpty) hown (mvT hZ (tw hw 34 rfl)) (mvT hZ (tw hw 35 rfl)) (notFace_of_selects (args := #[]) (mvT hZ (tw hw 37 rfl))) (mvT hZ (tw hw 37 rfl)) (mvT hZ (tw hw 36 rfl)) (by decide) (backOf (W := 0) (rm6t6 l Z aw hw [] b3 bh bd bp e2d x1 u1 T9.heap n0 Z9 ⟨E9, Fh9, Fd9, Fp9, Fs9, Ft9, Ah9, Ad9, Ap9, g09, gh9, gd9, gp9, n0h9, n0d9, n0p9, nhd9, nhp9, ndp9⟩) hZ (tw hw 38 rfl) (tw hw 2 rfl) (by decide) (by decide)) q10a q10c (g := (mkF m 188 #[.val (.int p0), .val (.int p1), .val (.int p2), .val (.int p3), s4, s5, s6, .val (.int (0 : Int32)), .val (.double e0d), .second, .val (.double e1d), .second, .val (.double e2d), .second, .val (.ref b3), s15, s16, .unset] [(.ref b3)])) rfl (by rw [hml]; rfl) (Steps.refl _) (argsL := []) (rest := []) (lenOf pd_2829Z rfl) rfl (by show 2 * 0 + _ ≤ _; exact Nat.le_of_eq rfl) (hb hby at_188) (fun _ _ => ⟨rfl, rfl, (by decide : 4 + 0 ≤ _), (by decide : 11 + 0 ≤ _)⟩)
          dsimp only [Pt.U, Pt.locs, Pt.cells, Pt.slots] at X10 lz10 yz10 zz10 st10 hQ10
          subst lz10 yz10 zz10
          obtain ⟨rfl, N10q, K10, hD10⟩ := hQ10
          have E10_b3 := Exa.keep E9 K10
          have Z10 : n0 ≤ T10.heap.size := Nat.le_trans Z9 K10.1
          obtain ⟨E10, Fh10, Fd10, Fp10, Fs10, Ft10, Ah10, Ad10, Ap10, g010, gh10, gd10, gp10, n0h10, n0d10, n0p10, nhd10, nhp10, ndp10⟩ := hD10
          have N10 := Fr.app N9 N10q
          refine go (fun _ k => st10.trans k) ?_
          show Run _ _ _ _ _ _ _ T10 (mkF m 191 #[.val (.int p0), .val (.int p1), .val (.int p2), .val (.int p3), s4, s5, s6, .val (.int (0 : Int32)), .val (.double e0d), .second, .val (.double e1d), .second, .val (.double e2d), .second, .val (.ref b3), s15, s16, .unset] [(.int (0 : Int32))])
          refine go (T' := T10) (f' := (mkF m 196 #[.val (.int p0), .val (.int p1), .val (.int p2), .val (.int p3), s4, s5, s6, .val (.int (0 : Int32)), .val (.double e0d), .second, .val (.double e1d), .second, .val (.double e2d), .second, .val (.ref b3), s15, s16, .unset] [])) (by intro t k; exact XS.ifYes X10.here hx rfl (pc0 := 191) (pc' := 196) rfl (hb hby at_191) rfl ((if0 _ _).trans (teq (rfl : (0 : Int32) = (0 : Int32))).1) (by decide) (by decide) k) ?_
          refine go (T' := T10) (f' := (mkF m 198 #[.val (.int p0), .val (.int p1), .val (.int p2), .val (.int p3), s4, s5, s6, .val (.int (0 : Int32)), .val (.double e0d), .second, .val (.double e1d), .second, .val (.double e2d), .second, .val (.ref b3), s15, s16, .unset] [(.ref b3)])) (by intro t k; exact XS.aload X10.here hx rfl (hb hby at_196) rfl rfl k) ?_
          obtain ⟨cq11, kq11, q11a, q11b, q11c⟩ := isOf hZ rfl E10
          obtain ⟨_, _, ⟨T11, Lz11, kz11, nz11⟩, -, X11, ⟨Lc11, hQ11, lz11, yz11, zz11⟩, st11⟩ := X10.virtualBack hx (y := mpoll) (z := mpoll) hown (mvT hZ (tw hw 57 rfl)) (mvT hZ (tw hw 58 rfl)) (notFace_of_selects (args := #[]) (mvT hZ (tw hw 60 rfl))) (mvT hZ (tw hw 60 rfl)) (mvT hZ (tw hw 59 rfl)) (by decide) (backOf (W := 0) (rm11t7 l Z aw hw [] b3 bh bd bp e2d x1 u1 T10.heap n0 Z10 ⟨E10, Fh10, Fd10, Fp10, Fs10, Ft10, Ah10, Ad10, Ap10, g010, gh10, gd10, gp10, n0h10, n0d10, n0p10, nhd10, nhp10, ndp10⟩) hZ (tw hw 61 rfl) (tw hw 2 rfl) (by decide) (by decide)) q11a q11c (g := (mkF m 198 #[.val (.int p0), .val (.int p1), .val (.int p2), .val (.int p3), s4, s5, s6, .val (.int (0 : Int32)), .val (.double e0d), .second, .val (.double e1d), .second, .val (.double e2d), .second, .val (.ref b3), s15, s16, .unset] [(.ref b3)])) rfl (by rw [hml]; rfl) (Steps.refl _) (argsL := []) (rest := []) (lenOf pd_2829I rfl) rfl (by show 2 * 0 + _ ≤ _; exact Nat.le_of_eq rfl) (hb hby at_198) (fun _ _ => ⟨rfl, rfl, (by decide : 4 + 0 ≤ _), (by decide : 11 + 0 ≤ _)⟩)
          dsimp only [Pt.U, Pt.locs, Pt.cells, Pt.slots] at X11 lz11 yz11 zz11 st11 hQ11
          subst lz11 yz11 zz11
          obtain ⟨rfl, N11q, K11, hD11⟩ := hQ11
          have E11_b3 := Exa.keep E10 K11
          have Z11 : n0 ≤ T11.heap.size := Nat.le_trans Z10 K11.1
          obtain ⟨E11, Fh11, Fd11, Fp11, Fs11, Ft11, Ah11, Ad11, Ap11, g011, gh11, gd11, gp11, n0h11, n0d11, n0p11, nhd11, nhp11, ndp11⟩ := hD11
          have N11 := Fr.app N10 N11q
          refine go (fun _ k => st11.trans k) ?_
          show Run _ _ _ _ _ _ _ T11 (mkF m 201 #[.val (.int p0), .val (.int p1), .val (.int p2), .val (.int p3), s4, s5, s6, .val (.int (0 : Int32)), .val (.double e0d), .second, .val (.double e1d), .second, .val (.double e2d), .second, .val (.ref b3), s15, s16, .unset] [(.int (0 : Int32))])
          refine go (T' := T11) (f' := (mkF m 203 #[.val (.int p0), .val (.int p1), .val (.int p2), .val (.int p3), s4, s5, s6, .val (.int (0 : Int32)), .val (.double e0d), .second, .val (.double e1d), .second, .val (.double e2d), .second, .val (.ref b3), s15, s16, .val (.int (0 : Int32))] [])) (by intro t k; exact XS.istore X11.here hx rfl (hb hby at_201) rfl (l' := #[.val (.int p0), .val (.int p1), .val (.int p2), .val (.int p3), s4, s5, s6, .val (.int (0 : Int32)), .val (.double e0d), .second, .val (.double e1d), .second, .val (.double e2d), .second, .val (.ref b3), s15, s16, .val (.int (0 : Int32))]) rfl k) ?_
          refine go (T' := T11) (f' := (mkF m 205 #[.val (.int p0), .val (.int p1), .val (.int p2), .val (.int p3), s4, s5, s6, .val (.int (0 : Int32)), .val (.double e0d), .second, .val (.double e1d), .second, .val (.double e2d), .second, .val (.ref b3), s15, s16, .val (.int (0 : Int32))] [(.int (0 : Int32))])) (by intro t k; exact XS.iload X11.here hx rfl (hb hby at_203) rfl k) ?_
          refine go (T' := T11) (f' := (mkF m 207 #[.val (.int p0), .val (.int p1), .val (.int p2), .val (.int p3), s4, s5, s6, .val (.int (0 : Int32)), .val (.double e0d), .second, .val (.double e1d), .second, .val (.double e2d), .second, .val (.ref b3), s15, s16, .val (.int (0 : Int32))] [(.int (0 : Int32)), (.int (0 : Int32))])) (by intro t k; exact XS.iload X11.here hx rfl (hb hby at_205) rfl k) ?_
          refine go (T' := T11) (f' := (mkF m 210 #[.val (.int p0), .val (.int p1), .val (.int p2), .val (.int p3), s4, s5, s6, .val (.int (0 : Int32)), .val (.double e0d), .second, .val (.double e1d), .second, .val (.double e2d), .second, .val (.ref b3), s15, s16, .val (.int (0 : Int32))] [])) (by intro t k; exact XS.icmpNo X11.here hx rfl (hb hby at_207) rfl (teq (rfl : (0 : Int32) = (0 : Int32))).2 k) ?_
          refine go (T' := T11) (f' := (mkF m 212 #[.val (.int p0), .val (.int p1), .val (.int p2), .val (.int p3), s4, s5, s6, .val (.int (0 : Int32)), .val (.double e0d), .second, .val (.double e1d), .second, .val (.double e2d), .second, .val (.ref b3), s15, s16, .val (.int (0 : Int32))] [(.ref b3)])) (by intro t k; exact XS.aload X11.here hx rfl (hb hby at_210) rfl rfl k) ?_
          obtain ⟨cq12, kq12, q12a, q12b, q12c⟩ := isOf hZ rfl E11
          obtain ⟨_, _, ⟨T12, Lz12, kz12, nz12⟩, -, X12, ⟨Lc12, hQ12, lz12, yz12, zz12⟩, st12⟩ := X11.virtualBack hx (y := misEmpty) (z := misEmpty) hown (mvT hZ (tw hw 34 rfl)) (mvT hZ (tw hw 35 rfl)) (notFace_of_selects (args := #[]) (mvT hZ (tw hw 37 rfl))) (mvT hZ (tw hw 37 rfl)) (mvT hZ (tw hw 36 rfl)) (by decide) (backOf (W := 0) (rm6t8 l Z aw hw [] b3 bh bd bp e2d x1  T11.heap n0 Z11 ⟨E11, Fh11, Fd11, Fp11, Fs11, Ft11, Ah11, Ad11, Ap11, g011, gh11, gd11, gp11, n0h11, n0d11, n0p11, nhd11, nhp11, ndp11⟩) hZ (tw hw 38 rfl) (tw hw 2 rfl) (by decide) (by decide)) q12a q12c (g := (mkF m 212 #[.val (.int p0), .val (.int p1), .val (.int p2), .val (.int p3), s4, s5, s6, .val (.int (0 : Int32)), .val (.double e0d), .second, .val (.double e1d), .second, .val (.double e2d), .second, .val (.ref b3), s15, s16, .val (.int (0 : Int32))] [(.ref b3)])) rfl (by rw [hml]; rfl) (Steps.refl _) (argsL := []) (rest := []) (lenOf pd_2829Z rfl) rfl (by show 2 * 0 + _ ≤ _; exact Nat.le_of_eq rfl) (hb hby at_212) (fun _ _ => ⟨rfl, rfl, (by decide : 4 + 0 ≤ _), (by decide : 11 + 0 ≤ _)⟩)
          dsimp only [Pt.U, Pt.locs, Pt.cells, Pt.slots] at X12 lz12 yz12 zz12 st12 hQ12
          subst lz12 yz12 zz12
          obtain ⟨rfl, N12q, K12, hD12⟩ := hQ12
          have E12_b3 := Exa.keep E11 K12
          have Z12 : n0 ≤ T12.heap.size := Nat.le_trans Z11 K12.1
          obtain ⟨E12, Fh12, Fd12, Fp12, Fs12, Ft12, Ah12, Ad12, Ap12, g012, gh12, gd12, gp12, n0h12, n0d12, n0p12, nhd12, nhp12, ndp12⟩ := hD12
          have N12 := Fr.app N11 N12q
          refine go (fun _ k => st12.trans k) ?_
          show Run _ _ _ _ _ _ _ T12 (mkF m 215 #[.val (.int p0), .val (.int p1), .val (.int p2), .val (.int p3), s4, s5, s6, .val (.int (0 : Int32)), .val (.double e0d), .second, .val (.double e1d), .second, .val (.double e2d), .second, .val (.ref b3), s15, s16, .val (.int (0 : Int32))] [(.int (1 : Int32))])
          refine go (T' := T12) (f' := (mkF m 218 #[.val (.int p0), .val (.int p1), .val (.int p2), .val (.int p3), s4, s5, s6, .val (.int (0 : Int32)), .val (.double e0d), .second, .val (.double e1d), .second, .val (.double e2d), .second, .val (.ref b3), s15, s16, .val (.int (0 : Int32))] [])) (by intro t k; exact XS.ifNo X12.here hx rfl (hb hby at_215) rfl ((if0 _ _).trans (feq (by decide : ¬ ((1 : Int32) = (0 : Int32)))).1) k) ?_
          refine go (T' := T12) (f' := (mkF m 219 #[.val (.int p0), .val (.int p1), .val (.int p2), .val (.int p3), s4, s5, s6, .val (.int (0 : Int32)), .val (.double e0d), .second, .val (.double e1d), .second, .val (.double e2d), .second, .val (.ref b3), s15, s16, .val (.int (0 : Int32))] [(.int (1 : Int32))])) (by intro t k; exact XS.iconst X12.here hx rfl (hb hby at_218) k) ?_
          refine go (T' := T12) (f' := (mkF m 223 #[.val (.int p0), .val (.int p1), .val (.int p2), .val (.int p3), s4, s5, s6, .val (.int (0 : Int32)), .val (.double e0d), .second, .val (.double e1d), .second, .val (.double e2d), .second, .val (.ref b3), s15, s16, .val (.int (0 : Int32))] [(.int (1 : Int32))])) (by intro t k; exact XS.goto X12.here hx rfl (pc0 := 219) (pc' := 223) rfl (hb hby at_219) (by decide) (by decide) k) ?_
          refine retZ X12 hx (t := .boolean) Bd.returns (by simp) (hb hby at_223) hlk (by decide) (by decide) ?_
          show Q0 Z p0 p1 p2 p3 h0 n0 _ T12.heap _
          have hv' : (nar .boolean (1 : Int32)) = (1 : Int32) := by
            rfl
          have hv : (some (.int (nar .boolean (1 : Int32))) : Option Value) = some (.int (1 : Int32)) := congrArg (fun z => (some (.int z) : Option Value)) hv'
          exact ⟨hv, N12⟩
        · subst ez
          show Run _ _ _ _ _ _ _ T7 (mkF m 177 #[.val (.int p0), .val (.int p1), .val (.int p2), .val (.int p3), s4, s5, s6, .val (.int (1 : Int32)), .val (.double e0d), .second, .val (.double e1d), .second, .val (.double e2d), .second, .val (.ref b3), s15, s16, .unset] [])
          refine go (T' := T7) (f' := (mkF m 179 #[.val (.int p0), .val (.int p1), .val (.int p2), .val (.int p3), s4, s5, s6, .val (.int (1 : Int32)), .val (.double e0d), .second, .val (.double e1d), .second, .val (.double e2d), .second, .val (.ref b3), s15, s16, .unset] [(.ref b3)])) (by intro t k; exact XS.aload X7.here hx rfl (hb hby at_177) rfl rfl k) ?_
          refine go (T' := T7) (f' := (mkF m 181 #[.val (.int p0), .val (.int p1), .val (.int p2), .val (.int p3), s4, s5, s6, .val (.int (1 : Int32)), .val (.double e0d), .second, .val (.double e1d), .second, .val (.double e2d), .second, .val (.ref b3), s15, s16, .unset] [(.int (1 : Int32)), (.ref b3)])) (by intro t k; exact XS.iload X7.here hx rfl (hb hby at_179) rfl k) ?_
          refine go (T' := T7) (f' := (mkF m 183 #[.val (.int p0), .val (.int p1), .val (.int p2), .val (.int p3), s4, s5, s6, .val (.int (1 : Int32)), .val (.double e0d), .second, .val (.double e1d), .second, .val (.double e2d), .second, .val (.ref b3), s15, s16, .unset] [(.double e2d), (.int (1 : Int32)), (.ref b3)])) (by intro t k; exact XS.dload X7.here hx rfl (hb hby at_181) rfl k) ?_
          obtain ⟨cq13, kq13, q13a, q13b, q13c⟩ := isOf hZ rfl E7
          obtain ⟨_, _, ⟨T13, Lz13, kz13, nz13⟩, -, X13, ⟨Lc13, hQ13, lz13, yz13, zz13⟩, st13⟩ := X7.virtualBack hx (y := moffer) (z := moffer) hown (mvT hZ (tw hw 44 rfl)) (mvT hZ (tw hw 45 rfl)) (notFace_of_selects (args := #[]) (mvT hZ (tw hw 47 rfl))) (mvT hZ (tw hw 47 rfl)) (mvT hZ (tw hw 46 rfl)) (by decide) (backOf (W := 0) (rm8t9 l Z aw hw [] b3 e2d bh bd bp x0 x1 u0 u1 T7.heap n0 Z7 ⟨E7, Fh7, Fd7, Fp7, Fs7, Ft7, Ah7, Ad7, Ap7, g07, gh7, gd7, gp7, n0h7, n0d7, n0p7, nhd7, nhp7, ndp7⟩) hZ (tw hw 48 rfl) (tw hw 2 rfl) (by decide) (by decide)) q13a q13c (g := (mkF m 183 #[.val (.int p0), .val (.int p1), .val (.int p2), .val (.int p3), s4, s5, s6, .val (.int (1 : Int32)), .val (.double e0d), .second, .val (.double e1d), .second, .val (.double e2d), .second, .val (.ref b3), s15, s16, .unset] [(.double e2d), (.int (1 : Int32)), (.ref b3)])) rfl (by rw [hml]; rfl) (Steps.refl _) (argsL := [(.int (1 : Int32)), (.double e2d)]) (rest := []) (lenOf pd_28ID29V rfl) rfl (by show 2 * 0 + _ ≤ _; exact Nat.le_of_eq rfl) (hb hby at_183) (fun _ _ => ⟨rfl, rfl, (by decide : 4 + 0 ≤ _), (by decide : 11 + 0 ≤ _)⟩)
          dsimp only [Pt.U, Pt.locs, Pt.cells, Pt.slots] at X13 lz13 yz13 zz13 st13 hQ13
          subst lz13 yz13 zz13
          obtain ⟨rfl, N13q, K13, hD13⟩ := hQ13
          have E13_b3 := Exa.keep E7 K13
          have Z13 : n0 ≤ T13.heap.size := Nat.le_trans Z7 K13.1
          obtain ⟨E13, Fh13, Fd13, Fp13, Fs13, Ft13, Ah13, Ad13, Ap13, g013, gh13, gd13, gp13, n0h13, n0d13, n0p13, nhd13, nhp13, ndp13⟩ := hD13
          have N13 := Fr.app N7 N13q
          refine go (fun _ k => st13.trans k) ?_
          show Run _ _ _ _ _ _ _ T13 (mkF m 186 #[.val (.int p0), .val (.int p1), .val (.int p2), .val (.int p3), s4, s5, s6, .val (.int (1 : Int32)), .val (.double e0d), .second, .val (.double e1d), .second, .val (.double e2d), .second, .val (.ref b3), s15, s16, .unset] [])
          refine go (T' := T13) (f' := (mkF m 188 #[.val (.int p0), .val (.int p1), .val (.int p2), .val (.int p3), s4, s5, s6, .val (.int (1 : Int32)), .val (.double e0d), .second, .val (.double e1d), .second, .val (.double e2d), .second, .val (.ref b3), s15, s16, .unset] [(.ref b3)])) (by intro t k; exact XS.aload X13.here hx rfl (hb hby at_186) rfl rfl k) ?_
          obtain ⟨cq14, kq14, q14a, q14b, q14c⟩ := isOf hZ rfl E13
          obtain ⟨_, _, ⟨T14, Lz14, kz14, nz14⟩, -, X14, ⟨Lc14, hQ14, lz14, yz14, zz14⟩, st14⟩ := X13.virtualBack hx (y := misEmpty) (z := misEmpty) hown (mvT hZ (tw hw 34 rfl)) (mvT hZ (tw hw 35 rfl)) (notFace_of_selects (args := #[]) (mvT hZ (tw hw 37 rfl))) (mvT hZ (tw hw 37 rfl)) (mvT hZ (tw hw 36 rfl)) (by decide) (backOf (W := 0) (rm6t12 l Z aw hw [] b3 bh bd bp x0 e2d u1 T13.heap n0 Z13 ⟨E13, Fh13, Fd13, Fp13, Fs13, Ft13, Ah13, Ad13, Ap13, g013, gh13, gd13, gp13, n0h13, n0d13, n0p13, nhd13, nhp13, ndp13⟩) hZ (tw hw 38 rfl) (tw hw 2 rfl) (by decide) (by decide)) q14a q14c (g := (mkF m 188 #[.val (.int p0), .val (.int p1), .val (.int p2), .val (.int p3), s4, s5, s6, .val (.int (1 : Int32)), .val (.double e0d), .second, .val (.double e1d), .second, .val (.double e2d), .second, .val (.ref b3), s15, s16, .unset] [(.ref b3)])) rfl (by rw [hml]; rfl) (Steps.refl _) (argsL := []) (rest := []) (lenOf pd_2829Z rfl) rfl (by show 2 * 0 + _ ≤ _; exact Nat.le_of_eq rfl) (hb hby at_188) (fun _ _ => ⟨rfl, rfl, (by decide : 4 + 0 ≤ _), (by decide : 11 + 0 ≤ _)⟩)
          dsimp only [Pt.U, Pt.locs, Pt.cells, Pt.slots] at X14 lz14 yz14 zz14 st14 hQ14
          subst lz14 yz14 zz14
          obtain ⟨rfl, N14q, K14, hD14⟩ := hQ14
          have E14_b3 := Exa.keep E13 K14
          have Z14 : n0 ≤ T14.heap.size := Nat.le_trans Z13 K14.1
          obtain ⟨E14, Fh14, Fd14, Fp14, Fs14, Ft14, Ah14, Ad14, Ap14, g014, gh14, gd14, gp14, n0h14, n0d14, n0p14, nhd14, nhp14, ndp14⟩ := hD14
          have N14 := Fr.app N13 N14q
          refine go (fun _ k => st14.trans k) ?_
          show Run _ _ _ _ _ _ _ T14 (mkF m 191 #[.val (.int p0), .val (.int p1), .val (.int p2), .val (.int p3), s4, s5, s6, .val (.int (1 : Int32)), .val (.double e0d), .second, .val (.double e1d), .second, .val (.double e2d), .second, .val (.ref b3), s15, s16, .unset] [(.int (0 : Int32))])
          refine go (T' := T14) (f' := (mkF m 196 #[.val (.int p0), .val (.int p1), .val (.int p2), .val (.int p3), s4, s5, s6, .val (.int (1 : Int32)), .val (.double e0d), .second, .val (.double e1d), .second, .val (.double e2d), .second, .val (.ref b3), s15, s16, .unset] [])) (by intro t k; exact XS.ifYes X14.here hx rfl (pc0 := 191) (pc' := 196) rfl (hb hby at_191) rfl ((if0 _ _).trans (teq (rfl : (0 : Int32) = (0 : Int32))).1) (by decide) (by decide) k) ?_
          refine go (T' := T14) (f' := (mkF m 198 #[.val (.int p0), .val (.int p1), .val (.int p2), .val (.int p3), s4, s5, s6, .val (.int (1 : Int32)), .val (.double e0d), .second, .val (.double e1d), .second, .val (.double e2d), .second, .val (.ref b3), s15, s16, .unset] [(.ref b3)])) (by intro t k; exact XS.aload X14.here hx rfl (hb hby at_196) rfl rfl k) ?_
          obtain ⟨cq15, kq15, q15a, q15b, q15c⟩ := isOf hZ rfl E14
          obtain ⟨_, _, ⟨T15, Lz15, kz15, nz15⟩, -, X15, ⟨Lc15, hQ15, lz15, yz15, zz15⟩, st15⟩ := X14.virtualBack hx (y := mpoll) (z := mpoll) hown (mvT hZ (tw hw 57 rfl)) (mvT hZ (tw hw 58 rfl)) (notFace_of_selects (args := #[]) (mvT hZ (tw hw 60 rfl))) (mvT hZ (tw hw 60 rfl)) (mvT hZ (tw hw 59 rfl)) (by decide) (backOf (W := 0) (rm11t13 l Z aw hw [] b3 bh bd bp x0 e2d u1 T14.heap n0 Z14 ⟨E14, Fh14, Fd14, Fp14, Fs14, Ft14, Ah14, Ad14, Ap14, g014, gh14, gd14, gp14, n0h14, n0d14, n0p14, nhd14, nhp14, ndp14⟩) hZ (tw hw 61 rfl) (tw hw 2 rfl) (by decide) (by decide)) q15a q15c (g := (mkF m 198 #[.val (.int p0), .val (.int p1), .val (.int p2), .val (.int p3), s4, s5, s6, .val (.int (1 : Int32)), .val (.double e0d), .second, .val (.double e1d), .second, .val (.double e2d), .second, .val (.ref b3), s15, s16, .unset] [(.ref b3)])) rfl (by rw [hml]; rfl) (Steps.refl _) (argsL := []) (rest := []) (lenOf pd_2829I rfl) rfl (by show 2 * 0 + _ ≤ _; exact Nat.le_of_eq rfl) (hb hby at_198) (fun _ _ => ⟨rfl, rfl, (by decide : 4 + 0 ≤ _), (by decide : 11 + 0 ≤ _)⟩)
          dsimp only [Pt.U, Pt.locs, Pt.cells, Pt.slots] at X15 lz15 yz15 zz15 st15 hQ15
          subst lz15 yz15 zz15
          obtain ⟨rfl, N15q, K15, hD15⟩ := hQ15
          have E15_b3 := Exa.keep E14 K15
          have Z15 : n0 ≤ T15.heap.size := Nat.le_trans Z14 K15.1
          obtain ⟨E15, Fh15, Fd15, Fp15, Fs15, Ft15, Ah15, Ad15, Ap15, g015, gh15, gd15, gp15, n0h15, n0d15, n0p15, nhd15, nhp15, ndp15⟩ := hD15
          have N15 := Fr.app N14 N15q
          refine go (fun _ k => st15.trans k) ?_
          show Run _ _ _ _ _ _ _ T15 (mkF m 201 #[.val (.int p0), .val (.int p1), .val (.int p2), .val (.int p3), s4, s5, s6, .val (.int (1 : Int32)), .val (.double e0d), .second, .val (.double e1d), .second, .val (.double e2d), .second, .val (.ref b3), s15, s16, .unset] [(.int (1 : Int32))])
          refine go (T' := T15) (f' := (mkF m 203 #[.val (.int p0), .val (.int p1), .val (.int p2), .val (.int p3), s4, s5, s6, .val (.int (1 : Int32)), .val (.double e0d), .second, .val (.double e1d), .second, .val (.double e2d), .second, .val (.ref b3), s15, s16, .val (.int (1 : Int32))] [])) (by intro t k; exact XS.istore X15.here hx rfl (hb hby at_201) rfl (l' := #[.val (.int p0), .val (.int p1), .val (.int p2), .val (.int p3), s4, s5, s6, .val (.int (1 : Int32)), .val (.double e0d), .second, .val (.double e1d), .second, .val (.double e2d), .second, .val (.ref b3), s15, s16, .val (.int (1 : Int32))]) rfl k) ?_
          refine go (T' := T15) (f' := (mkF m 205 #[.val (.int p0), .val (.int p1), .val (.int p2), .val (.int p3), s4, s5, s6, .val (.int (1 : Int32)), .val (.double e0d), .second, .val (.double e1d), .second, .val (.double e2d), .second, .val (.ref b3), s15, s16, .val (.int (1 : Int32))] [(.int (1 : Int32))])) (by intro t k; exact XS.iload X15.here hx rfl (hb hby at_203) rfl k) ?_
          refine go (T' := T15) (f' := (mkF m 207 #[.val (.int p0), .val (.int p1), .val (.int p2), .val (.int p3), s4, s5, s6, .val (.int (1 : Int32)), .val (.double e0d), .second, .val (.double e1d), .second, .val (.double e2d), .second, .val (.ref b3), s15, s16, .val (.int (1 : Int32))] [(.int (1 : Int32)), (.int (1 : Int32))])) (by intro t k; exact XS.iload X15.here hx rfl (hb hby at_205) rfl k) ?_
          refine go (T' := T15) (f' := (mkF m 210 #[.val (.int p0), .val (.int p1), .val (.int p2), .val (.int p3), s4, s5, s6, .val (.int (1 : Int32)), .val (.double e0d), .second, .val (.double e1d), .second, .val (.double e2d), .second, .val (.ref b3), s15, s16, .val (.int (1 : Int32))] [])) (by intro t k; exact XS.icmpNo X15.here hx rfl (hb hby at_207) rfl (teq (rfl : (1 : Int32) = (1 : Int32))).2 k) ?_
          refine go (T' := T15) (f' := (mkF m 212 #[.val (.int p0), .val (.int p1), .val (.int p2), .val (.int p3), s4, s5, s6, .val (.int (1 : Int32)), .val (.double e0d), .second, .val (.double e1d), .second, .val (.double e2d), .second, .val (.ref b3), s15, s16, .val (.int (1 : Int32))] [(.ref b3)])) (by intro t k; exact XS.aload X15.here hx rfl (hb hby at_210) rfl rfl k) ?_
          obtain ⟨cq16, kq16, q16a, q16b, q16c⟩ := isOf hZ rfl E15
          obtain ⟨_, _, ⟨T16, Lz16, kz16, nz16⟩, -, X16, ⟨Lc16, hQ16, lz16, yz16, zz16⟩, st16⟩ := X15.virtualBack hx (y := misEmpty) (z := misEmpty) hown (mvT hZ (tw hw 34 rfl)) (mvT hZ (tw hw 35 rfl)) (notFace_of_selects (args := #[]) (mvT hZ (tw hw 37 rfl))) (mvT hZ (tw hw 37 rfl)) (mvT hZ (tw hw 36 rfl)) (by decide) (backOf (W := 0) (rm6t14 l Z aw hw [] b3 bh bd bp x0 e2d  T15.heap n0 Z15 ⟨E15, Fh15, Fd15, Fp15, Fs15, Ft15, Ah15, Ad15, Ap15, g015, gh15, gd15, gp15, n0h15, n0d15, n0p15, nhd15, nhp15, ndp15⟩) hZ (tw hw 38 rfl) (tw hw 2 rfl) (by decide) (by decide)) q16a q16c (g := (mkF m 212 #[.val (.int p0), .val (.int p1), .val (.int p2), .val (.int p3), s4, s5, s6, .val (.int (1 : Int32)), .val (.double e0d), .second, .val (.double e1d), .second, .val (.double e2d), .second, .val (.ref b3), s15, s16, .val (.int (1 : Int32))] [(.ref b3)])) rfl (by rw [hml]; rfl) (Steps.refl _) (argsL := []) (rest := []) (lenOf pd_2829Z rfl) rfl (by show 2 * 0 + _ ≤ _; exact Nat.le_of_eq rfl) (hb hby at_212) (fun _ _ => ⟨rfl, rfl, (by decide : 4 + 0 ≤ _), (by decide : 11 + 0 ≤ _)⟩)
          dsimp only [Pt.U, Pt.locs, Pt.cells, Pt.slots] at X16 lz16 yz16 zz16 st16 hQ16
          subst lz16 yz16 zz16
          obtain ⟨rfl, N16q, K16, hD16⟩ := hQ16
          have E16_b3 := Exa.keep E15 K16
          have Z16 : n0 ≤ T16.heap.size := Nat.le_trans Z15 K16.1
          obtain ⟨E16, Fh16, Fd16, Fp16, Fs16, Ft16, Ah16, Ad16, Ap16, g016, gh16, gd16, gp16, n0h16, n0d16, n0p16, nhd16, nhp16, ndp16⟩ := hD16
          have N16 := Fr.app N15 N16q
          refine go (fun _ k => st16.trans k) ?_
          show Run _ _ _ _ _ _ _ T16 (mkF m 215 #[.val (.int p0), .val (.int p1), .val (.int p2), .val (.int p3), s4, s5, s6, .val (.int (1 : Int32)), .val (.double e0d), .second, .val (.double e1d), .second, .val (.double e2d), .second, .val (.ref b3), s15, s16, .val (.int (1 : Int32))] [(.int (1 : Int32))])
          refine go (T' := T16) (f' := (mkF m 218 #[.val (.int p0), .val (.int p1), .val (.int p2), .val (.int p3), s4, s5, s6, .val (.int (1 : Int32)), .val (.double e0d), .second, .val (.double e1d), .second, .val (.double e2d), .second, .val (.ref b3), s15, s16, .val (.int (1 : Int32))] [])) (by intro t k; exact XS.ifNo X16.here hx rfl (hb hby at_215) rfl ((if0 _ _).trans (feq (by decide : ¬ ((1 : Int32) = (0 : Int32)))).1) k) ?_
          refine go (T' := T16) (f' := (mkF m 219 #[.val (.int p0), .val (.int p1), .val (.int p2), .val (.int p3), s4, s5, s6, .val (.int (1 : Int32)), .val (.double e0d), .second, .val (.double e1d), .second, .val (.double e2d), .second, .val (.ref b3), s15, s16, .val (.int (1 : Int32))] [(.int (1 : Int32))])) (by intro t k; exact XS.iconst X16.here hx rfl (hb hby at_218) k) ?_
          refine go (T' := T16) (f' := (mkF m 223 #[.val (.int p0), .val (.int p1), .val (.int p2), .val (.int p3), s4, s5, s6, .val (.int (1 : Int32)), .val (.double e0d), .second, .val (.double e1d), .second, .val (.double e2d), .second, .val (.ref b3), s15, s16, .val (.int (1 : Int32))] [(.int (1 : Int32))])) (by intro t k; exact XS.goto X16.here hx rfl (pc0 := 219) (pc' := 223) rfl (hb hby at_219) (by decide) (by decide) k) ?_
          refine retZ X16 hx (t := .boolean) Bd.returns (by simp) (hb hby at_223) hlk (by decide) (by decide) ?_
          show Q0 Z p0 p1 p2 p3 h0 n0 _ T16.heap _
          have hv' : (nar .boolean (1 : Int32)) = (1 : Int32) := by
            rfl
          have hv : (some (.int (nar .boolean (1 : Int32))) : Option Value) = some (.int (1 : Int32)) := congrArg (fun z => (some (.int z) : Option Value)) hv'
          exact ⟨hv, N16⟩
      show Run _ _ _ _ _ _ _ T4 (mkF m 77 #[.val (.int p0), .val (.int p1), .val (.int p2), .val (.int p3), .val (.int z1), .val (.int z2), .val (.int ((((p0).toUInt32 >>> ((2 : Int32) &&& 31).toUInt32).toInt32) &&& (3 : Int32))), .val (.int ((((p0).toUInt32 >>> ((4 : Int32) &&& 31).toUInt32).toInt32) &&& (1 : Int32))), .val (.double e0d), .second, .val (.double e1d), .second, .val (.double e2d), .second, .val (.ref b3), .val (.int (0 : Int32)), .unset, .unset] [])
      refine go (T' := T4) (f' := (mkF m 79 #[.val (.int p0), .val (.int p1), .val (.int p2), .val (.int p3), .val (.int z1), .val (.int z2), .val (.int ((((p0).toUInt32 >>> ((2 : Int32) &&& 31).toUInt32).toInt32) &&& (3 : Int32))), .val (.int ((((p0).toUInt32 >>> ((4 : Int32) &&& 31).toUInt32).toInt32) &&& (1 : Int32))), .val (.double e0d), .second, .val (.double e1d), .second, .val (.double e2d), .second, .val (.ref b3), .val (.int (0 : Int32)), .unset, .unset] [(.int z1)])) (by intro t k; exact XS.iload X4.here hx rfl (hb hby at_77) rfl k) ?_
      rcases (own_01 hz1 : z1 = (0 : Int32) ∨ z1 = (1 : Int32)) with ez | ez
      · subst ez
        show Run _ _ _ _ _ _ _ T4 (mkF m 79 #[.val (.int p0), .val (.int p1), .val (.int p2), .val (.int p3), .val (.int (0 : Int32)), .val (.int z2), .val (.int ((((p0).toUInt32 >>> ((2 : Int32) &&& 31).toUInt32).toInt32) &&& (3 : Int32))), .val (.int ((((p0).toUInt32 >>> ((4 : Int32) &&& 31).toUInt32).toInt32) &&& (1 : Int32))), .val (.double e0d), .second, .val (.double e1d), .second, .val (.double e2d), .second, .val (.ref b3), .val (.int (0 : Int32)), .unset, .unset] [(.int (0 : Int32))])
        refine go (T' := T4) (f' := (mkF m 93 #[.val (.int p0), .val (.int p1), .val (.int p2), .val (.int p3), .val (.int (0 : Int32)), .val (.int z2), .val (.int ((((p0).toUInt32 >>> ((2 : Int32) &&& 31).toUInt32).toInt32) &&& (3 : Int32))), .val (.int ((((p0).toUInt32 >>> ((4 : Int32) &&& 31).toUInt32).toInt32) &&& (1 : Int32))), .val (.double e0d), .second, .val (.double e1d), .second, .val (.double e2d), .second, .val (.ref b3), .val (.int (0 : Int32)), .unset, .unset] [])) (by intro t k; exact XS.ifYes X4.here hx rfl (pc0 := 79) (pc' := 93) rfl (hb hby at_79) rfl ((if0 _ _).trans (teq (rfl : (0 : Int32) = (0 : Int32))).1) (by decide) (by decide) k) ?_
        refine go (T' := T4) (f' := (mkF m 95 #[.val (.int p0), .val (.int p1), .val (.int p2), .val (.int p3), .val (.int (0 : Int32)), .val (.int z2), .val (.int ((((p0).toUInt32 >>> ((2 : Int32) &&& 31).toUInt32).toInt32) &&& (3 : Int32))), .val (.int ((((p0).toUInt32 >>> ((4 : Int32) &&& 31).toUInt32).toInt32) &&& (1 : Int32))), .val (.double e0d), .second, .val (.double e1d), .second, .val (.double e2d), .second, .val (.ref b3), .val (.int (0 : Int32)), .unset, .unset] [(.int z2)])) (by intro t k; exact XS.iload X4.here hx rfl (hb hby at_93) rfl k) ?_
        rcases (own_01 hz2 : z2 = (0 : Int32) ∨ z2 = (1 : Int32)) with ez | ez
        · subst ez
          show Run _ _ _ _ _ _ _ T4 (mkF m 95 #[.val (.int p0), .val (.int p1), .val (.int p2), .val (.int p3), .val (.int (0 : Int32)), .val (.int (0 : Int32)), .val (.int ((((p0).toUInt32 >>> ((2 : Int32) &&& 31).toUInt32).toInt32) &&& (3 : Int32))), .val (.int ((((p0).toUInt32 >>> ((4 : Int32) &&& 31).toUInt32).toInt32) &&& (1 : Int32))), .val (.double e0d), .second, .val (.double e1d), .second, .val (.double e2d), .second, .val (.ref b3), .val (.int (0 : Int32)), .unset, .unset] [(.int (0 : Int32))])
          refine go (T' := T4) (f' := (mkF m 109 #[.val (.int p0), .val (.int p1), .val (.int p2), .val (.int p3), .val (.int (0 : Int32)), .val (.int (0 : Int32)), .val (.int ((((p0).toUInt32 >>> ((2 : Int32) &&& 31).toUInt32).toInt32) &&& (3 : Int32))), .val (.int ((((p0).toUInt32 >>> ((4 : Int32) &&& 31).toUInt32).toInt32) &&& (1 : Int32))), .val (.double e0d), .second, .val (.double e1d), .second, .val (.double e2d), .second, .val (.ref b3), .val (.int (0 : Int32)), .unset, .unset] [])) (by intro t k; exact XS.ifYes X4.here hx rfl (pc0 := 95) (pc' := 109) rfl (hb hby at_95) rfl ((if0 _ _).trans (teq (rfl : (0 : Int32) = (0 : Int32))).1) (by decide) (by decide) k) ?_
          refine go (T' := T4) (f' := (mkF m 111 #[.val (.int p0), .val (.int p1), .val (.int p2), .val (.int p3), .val (.int (0 : Int32)), .val (.int (0 : Int32)), .val (.int ((((p0).toUInt32 >>> ((2 : Int32) &&& 31).toUInt32).toInt32) &&& (3 : Int32))), .val (.int ((((p0).toUInt32 >>> ((4 : Int32) &&& 31).toUInt32).toInt32) &&& (1 : Int32))), .val (.double e0d), .second, .val (.double e1d), .second, .val (.double e2d), .second, .val (.ref b3), .val (.int (0 : Int32)), .unset, .unset] [(.int ((((p0).toUInt32 >>> ((2 : Int32) &&& 31).toUInt32).toInt32) &&& (3 : Int32)))])) (by intro t k; exact XS.iload X4.here hx rfl (hb hby at_109) rfl k) ?_
          refine go (T' := T4) (f' := (mkF m 113 #[.val (.int p0), .val (.int p1), .val (.int p2), .val (.int p3), .val (.int (0 : Int32)), .val (.int (0 : Int32)), .val (.int ((((p0).toUInt32 >>> ((2 : Int32) &&& 31).toUInt32).toInt32) &&& (3 : Int32))), .val (.int ((((p0).toUInt32 >>> ((4 : Int32) &&& 31).toUInt32).toInt32) &&& (1 : Int32))), .val (.double e0d), .second, .val (.double e1d), .second, .val (.double e2d), .second, .val (.ref b3), .val (.int (0 : Int32)), .unset, .unset] [(.int (0 : Int32)), (.int ((((p0).toUInt32 >>> ((2 : Int32) &&& 31).toUInt32).toInt32) &&& (3 : Int32)))])) (by intro t k; exact XS.iload X4.here hx rfl (hb hby at_111) rfl k) ?_
          obtain ⟨_, _, ⟨T17, Lz17, kz17, nz17⟩, -, X17, ⟨Lc17, hQ17, lz17, yz17, zz17⟩, st17⟩ := Jvm.LawKit.callS X4 hx (y := (⟨"java/lang/Math", "min", "(II)I"⟩ : MethodName)) hown (mvT hZ (tw hw 21 rfl)) (mvT hZ (tw hw 22 rfl)) (mvT hZ (tw hw 23 rfl)) (mvT hZ (tw hw 24 rfl)) (by decide) (backOf (W := 0) (rm4 l Z aw hw [] ((((p0).toUInt32 >>> ((2 : Int32) &&& 31).toUInt32).toInt32) &&& (3 : Int32)) (0 : Int32)  T4.heap n0 Z4 ) hZ (tw hw 24 rfl) (tw hw 23 rfl) (by decide) (by decide)) (g := (mkF m 113 #[.val (.int p0), .val (.int p1), .val (.int p2), .val (.int p3), .val (.int (0 : Int32)), .val (.int (0 : Int32)), .val (.int ((((p0).toUInt32 >>> ((2 : Int32) &&& 31).toUInt32).toInt32) &&& (3 : Int32))), .val (.int ((((p0).toUInt32 >>> ((4 : Int32) &&& 31).toUInt32).toInt32) &&& (1 : Int32))), .val (.double e0d), .second, .val (.double e1d), .second, .val (.double e2d), .second, .val (.ref b3), .val (.int (0 : Int32)), .unset, .unset] [(.int (0 : Int32)), (.int ((((p0).toUInt32 >>> ((2 : Int32) &&& 31).toUInt32).toInt32) &&& (3 : Int32)))])) rfl (by rw [hml]; rfl) (argsL := [(.int ((((p0).toUInt32 >>> ((2 : Int32) &&& 31).toUInt32).toInt32) &&& (3 : Int32))), (.int (0 : Int32))]) (rest := []) (lenOf pd_28II29I rfl) rfl (by show 2 * 0 + _ ≤ _; exact Nat.le_of_eq rfl) (hb hby at_113) (fun _ _ => ⟨rfl, rfl, (by decide : 4 + 0 ≤ _), (by decide : 11 + 0 ≤ _)⟩)
          dsimp only [Pt.U, Pt.locs, Pt.cells, Pt.slots] at X17 lz17 yz17 zz17 st17 hQ17
          subst lz17 yz17 zz17
          obtain ⟨rfl, N17q, e17⟩ := hQ17
          have N17 := Fr.app N4 N17q
          refine go st17 ?_
          have ez : (own_min ((((p0).toUInt32 >>> ((2 : Int32) &&& 31).toUInt32).toInt32) &&& (3 : Int32)) (0 : Int32)) = (0 : Int32) := (own_p0 rfl).elim id id
          rw [ez]
          show Run _ _ _ _ _ _ _ T17 (mkF m 116 #[.val (.int p0), .val (.int p1), .val (.int p2), .val (.int p3), .val (.int (0 : Int32)), .val (.int (0 : Int32)), .val (.int ((((p0).toUInt32 >>> ((2 : Int32) &&& 31).toUInt32).toInt32) &&& (3 : Int32))), .val (.int ((((p0).toUInt32 >>> ((4 : Int32) &&& 31).toUInt32).toInt32) &&& (1 : Int32))), .val (.double e0d), .second, .val (.double e1d), .second, .val (.double e2d), .second, .val (.ref b3), .val (.int (0 : Int32)), .unset, .unset] [(.int (0 : Int32))])
          refine go (T' := T17) (f' := (mkF m 118 #[.val (.int p0), .val (.int p1), .val (.int p2), .val (.int p3), .val (.int (0 : Int32)), .val (.int (0 : Int32)), .val (.int ((((p0).toUInt32 >>> ((2 : Int32) &&& 31).toUInt32).toInt32) &&& (3 : Int32))), .val (.int ((((p0).toUInt32 >>> ((4 : Int32) &&& 31).toUInt32).toInt32) &&& (1 : Int32))), .val (.double e0d), .second, .val (.double e1d), .second, .val (.double e2d), .second, .val (.ref b3), .val (.int (0 : Int32)), .val (.int (0 : Int32)), .unset] [])) (by intro t k; exact XS.istore X17.here hx rfl (hb hby at_116) rfl (l' := #[.val (.int p0), .val (.int p1), .val (.int p2), .val (.int p3), .val (.int (0 : Int32)), .val (.int (0 : Int32)), .val (.int ((((p0).toUInt32 >>> ((2 : Int32) &&& 31).toUInt32).toInt32) &&& (3 : Int32))), .val (.int ((((p0).toUInt32 >>> ((4 : Int32) &&& 31).toUInt32).toInt32) &&& (1 : Int32))), .val (.double e0d), .second, .val (.double e1d), .second, .val (.double e2d), .second, .val (.ref b3), .val (.int (0 : Int32)), .val (.int (0 : Int32)), .unset]) rfl k) ?_
          refine go (T' := T17) (f' := (mkF m 120 #[.val (.int p0), .val (.int p1), .val (.int p2), .val (.int p3), .val (.int (0 : Int32)), .val (.int (0 : Int32)), .val (.int ((((p0).toUInt32 >>> ((2 : Int32) &&& 31).toUInt32).toInt32) &&& (3 : Int32))), .val (.int ((((p0).toUInt32 >>> ((4 : Int32) &&& 31).toUInt32).toInt32) &&& (1 : Int32))), .val (.double e0d), .second, .val (.double e1d), .second, .val (.double e2d), .second, .val (.ref b3), .val (.int (0 : Int32)), .val (.int (0 : Int32)), .unset] [(.int (0 : Int32))])) (by intro t k; exact XS.iload X17.here hx rfl (hb hby at_118) rfl k) ?_
          refine go (T' := T17) (f' := (mkF m 121 #[.val (.int p0), .val (.int p1), .val (.int p2), .val (.int p3), .val (.int (0 : Int32)), .val (.int (0 : Int32)), .val (.int ((((p0).toUInt32 >>> ((2 : Int32) &&& 31).toUInt32).toInt32) &&& (3 : Int32))), .val (.int ((((p0).toUInt32 >>> ((4 : Int32) &&& 31).toUInt32).toInt32) &&& (1 : Int32))), .val (.double e0d), .second, .val (.double e1d), .second, .val (.double e2d), .second, .val (.ref b3), .val (.int (0 : Int32)), .val (.int (0 : Int32)), .unset] [(.int (1 : Int32)), (.int (0 : Int32))])) (by intro t k; exact XS.iconst X17.here hx rfl (hb hby at_120) k) ?_
          refine go (T' := T17) (f' := (mkF m 130 #[.val (.int p0), .val (.int p1), .val (.int p2), .val (.int p3), .val (.int (0 : Int32)), .val (.int (0 : Int32)), .val (.int ((((p0).toUInt32 >>> ((2 : Int32) &&& 31).toUInt32).toInt32) &&& (3 : Int32))), .val (.int ((((p0).toUInt32 >>> ((4 : Int32) &&& 31).toUInt32).toInt32) &&& (1 : Int32))), .val (.double e0d), .second, .val (.double e1d), .second, .val (.double e2d), .second, .val (.ref b3), .val (.int (0 : Int32)), .val (.int (0 : Int32)), .unset] [])) (by intro t k; exact XS.icmpYes X17.here hx rfl (pc0 := 121) (pc' := 130) rfl (hb hby at_121) rfl (tlt (by decide : (0 : Int32) < (1 : Int32))).1 (by decide) (by decide) k) ?_
          refine go (T' := T17) (f' := (mkF m 132 #[.val (.int p0), .val (.int p1), .val (.int p2), .val (.int p3), .val (.int (0 : Int32)), .val (.int (0 : Int32)), .val (.int ((((p0).toUInt32 >>> ((2 : Int32) &&& 31).toUInt32).toInt32) &&& (3 : Int32))), .val (.int ((((p0).toUInt32 >>> ((4 : Int32) &&& 31).toUInt32).toInt32) &&& (1 : Int32))), .val (.double e0d), .second, .val (.double e1d), .second, .val (.double e2d), .second, .val (.ref b3), .val (.int (0 : Int32)), .val (.int (0 : Int32)), .unset] [(.int (0 : Int32))])) (by intro t k; exact XS.iload X17.here hx rfl (hb hby at_130) rfl k) ?_
          refine go (T' := T17) (f' := (mkF m 133 #[.val (.int p0), .val (.int p1), .val (.int p2), .val (.int p3), .val (.int (0 : Int32)), .val (.int (0 : Int32)), .val (.int ((((p0).toUInt32 >>> ((2 : Int32) &&& 31).toUInt32).toInt32) &&& (3 : Int32))), .val (.int ((((p0).toUInt32 >>> ((4 : Int32) &&& 31).toUInt32).toInt32) &&& (1 : Int32))), .val (.double e0d), .second, .val (.double e1d), .second, .val (.double e2d), .second, .val (.ref b3), .val (.int (0 : Int32)), .val (.int (0 : Int32)), .unset] [(.int (2 : Int32)), (.int (0 : Int32))])) (by intro t k; exact XS.iconst X17.here hx rfl (hb hby at_132) k) ?_
          refine go (T' := T17) (f' := (mkF m 142 #[.val (.int p0), .val (.int p1), .val (.int p2), .val (.int p3), .val (.int (0 : Int32)), .val (.int (0 : Int32)), .val (.int ((((p0).toUInt32 >>> ((2 : Int32) &&& 31).toUInt32).toInt32) &&& (3 : Int32))), .val (.int ((((p0).toUInt32 >>> ((4 : Int32) &&& 31).toUInt32).toInt32) &&& (1 : Int32))), .val (.double e0d), .second, .val (.double e1d), .second, .val (.double e2d), .second, .val (.ref b3), .val (.int (0 : Int32)), .val (.int (0 : Int32)), .unset] [])) (by intro t k; exact XS.icmpYes X17.here hx rfl (pc0 := 133) (pc' := 142) rfl (hb hby at_133) rfl (tlt (by decide : (0 : Int32) < (2 : Int32))).1 (by decide) (by decide) k) ?_
          refine go (T' := T17) (f' := (mkF m 144 #[.val (.int p0), .val (.int p1), .val (.int p2), .val (.int p3), .val (.int (0 : Int32)), .val (.int (0 : Int32)), .val (.int ((((p0).toUInt32 >>> ((2 : Int32) &&& 31).toUInt32).toInt32) &&& (3 : Int32))), .val (.int ((((p0).toUInt32 >>> ((4 : Int32) &&& 31).toUInt32).toInt32) &&& (1 : Int32))), .val (.double e0d), .second, .val (.double e1d), .second, .val (.double e2d), .second, .val (.ref b3), .val (.int (0 : Int32)), .val (.int (0 : Int32)), .unset] [(.ref b3)])) (by intro t k; exact XS.aload X17.here hx rfl (hb hby at_142) rfl rfl k) ?_
          obtain ⟨cq18, kq18, q18a, q18b, q18c⟩ := isOf hZ e17 E4
          obtain ⟨_, _, ⟨T18, Lz18, kz18, nz18⟩, -, X18, ⟨Lc18, hQ18, lz18, yz18, zz18⟩, st18⟩ := X17.virtualBack hx (y := mclear) (z := mclear) hown (mvT hZ (tw hw 25 rfl)) (mvT hZ (tw hw 26 rfl)) (notFace_of_selects (args := #[]) (mvT hZ (tw hw 28 rfl))) (mvT hZ (tw hw 28 rfl)) (mvT hZ (tw hw 27 rfl)) (by decide) (backOf (W := 0) (rm5t15 l Z aw hw [] b3 bh bd bp (0 : UInt64) (0 : UInt64)  T4.heap n0 Z4 ⟨E4, Fh4, Fd4, Fp4, Fs4, Ft4, Ah4, Ad4, Ap4, g04, gh4, gd4, gp4, n0h4, n0d4, n0p4, nhd4, nhp4, ndp4⟩) hZ (tw hw 29 rfl) (tw hw 2 rfl) (by decide) (by decide)) q18a q18c (g := (mkF m 144 #[.val (.int p0), .val (.int p1), .val (.int p2), .val (.int p3), .val (.int (0 : Int32)), .val (.int (0 : Int32)), .val (.int ((((p0).toUInt32 >>> ((2 : Int32) &&& 31).toUInt32).toInt32) &&& (3 : Int32))), .val (.int ((((p0).toUInt32 >>> ((4 : Int32) &&& 31).toUInt32).toInt32) &&& (1 : Int32))), .val (.double e0d), .second, .val (.double e1d), .second, .val (.double e2d), .second, .val (.ref b3), .val (.int (0 : Int32)), .val (.int (0 : Int32)), .unset] [(.ref b3)])) rfl (by rw [hml]; rfl) (Steps.refl _) (argsL := []) (rest := []) (lenOf pd_2829V rfl) rfl (by show 2 * 0 + _ ≤ _; exact Nat.le_of_eq rfl) (hb hby at_144) (fun _ _ => ⟨rfl, e17, (by decide : 4 + 0 ≤ _), (by decide : 11 + 0 ≤ _)⟩)
          dsimp only [Pt.U, Pt.locs, Pt.cells, Pt.slots] at X18 lz18 yz18 zz18 st18 hQ18
          subst lz18 yz18 zz18
          obtain ⟨rfl, N18q, K18, hD18⟩ := hQ18
          have E18_b3 := Exa.keep E4 K18
          have Z18 : n0 ≤ T18.heap.size := Nat.le_trans Z4 K18.1
          obtain ⟨E18, Fh18, Fd18, Fp18, Fs18, Ft18, Ah18, Ad18, Ap18, g018, gh18, gd18, gp18, n0h18, n0d18, n0p18, nhd18, nhp18, ndp18⟩ := hD18
          have N18 := Fr.app N17 N18q
          refine go (fun _ k => st18.trans k) ?_
          show Run _ _ _ _ _ _ _ T18 (mkF m 147 #[.val (.int p0), .val (.int p1), .val (.int p2), .val (.int p3), .val (.int (0 : Int32)), .val (.int (0 : Int32)), .val (.int ((((p0).toUInt32 >>> ((2 : Int32) &&& 31).toUInt32).toInt32) &&& (3 : Int32))), .val (.int ((((p0).toUInt32 >>> ((4 : Int32) &&& 31).toUInt32).toInt32) &&& (1 : Int32))), .val (.double e0d), .second, .val (.double e1d), .second, .val (.double e2d), .second, .val (.ref b3), .val (.int (0 : Int32)), .val (.int (0 : Int32)), .unset] [])
          exact JC (0 : Int32) (0 : Int32) (0 : UInt64) (0 : UInt64) (.val (.int (0 : Int32))) (.val (.int (0 : Int32))) (.val (.int ((((p0).toUInt32 >>> ((2 : Int32) &&& 31).toUInt32).toInt32) &&& (3 : Int32)))) (.val (.int (0 : Int32))) (.val (.int (0 : Int32))) T18 T18.heap _ X18 rfl N18 Z18 ⟨E18, Fh18, Fd18, Fp18, Fs18, Ft18, Ah18, Ad18, Ap18, g018, gh18, gd18, gp18, n0h18, n0d18, n0p18, nhd18, nhp18, ndp18⟩
        · subst ez
          show Run _ _ _ _ _ _ _ T4 (mkF m 95 #[.val (.int p0), .val (.int p1), .val (.int p2), .val (.int p3), .val (.int (0 : Int32)), .val (.int (1 : Int32)), .val (.int ((((p0).toUInt32 >>> ((2 : Int32) &&& 31).toUInt32).toInt32) &&& (3 : Int32))), .val (.int ((((p0).toUInt32 >>> ((4 : Int32) &&& 31).toUInt32).toInt32) &&& (1 : Int32))), .val (.double e0d), .second, .val (.double e1d), .second, .val (.double e2d), .second, .val (.ref b3), .val (.int (0 : Int32)), .unset, .unset] [(.int (1 : Int32))])
          refine go (T' := T4) (f' := (mkF m 98 #[.val (.int p0), .val (.int p1), .val (.int p2), .val (.int p3), .val (.int (0 : Int32)), .val (.int (1 : Int32)), .val (.int ((((p0).toUInt32 >>> ((2 : Int32) &&& 31).toUInt32).toInt32) &&& (3 : Int32))), .val (.int ((((p0).toUInt32 >>> ((4 : Int32) &&& 31).toUInt32).toInt32) &&& (1 : Int32))), .val (.double e0d), .second, .val (.double e1d), .second, .val (.double e2d), .second, .val (.ref b3), .val (.int (0 : Int32)), .unset, .unset] [])) (by intro t k; exact XS.ifNo X4.here hx rfl (hb hby at_95) rfl ((if0 _ _).trans (feq (by decide : ¬ ((1 : Int32) = (0 : Int32)))).1) k) ?_
          refine go (T' := T4) (f' := (mkF m 100 #[.val (.int p0), .val (.int p1), .val (.int p2), .val (.int p3), .val (.int (0 : Int32)), .val (.int (1 : Int32)), .val (.int ((((p0).toUInt32 >>> ((2 : Int32) &&& 31).toUInt32).toInt32) &&& (3 : Int32))), .val (.int ((((p0).toUInt32 >>> ((4 : Int32) &&& 31).toUInt32).toInt32) &&& (1 : Int32))), .val (.double e0d), .second, .val (.double e1d), .second, .val (.double e2d), .second, .val (.ref b3), .val (.int (0 : Int32)), .unset, .unset] [(.ref b3)])) (by intro t k; exact XS.aload X4.here hx rfl (hb hby at_98) rfl rfl k) ?_
          refine go (T' := T4) (f' := (mkF m 101 #[.val (.int p0), .val (.int p1), .val (.int p2), .val (.int p3), .val (.int (0 : Int32)), .val (.int (1 : Int32)), .val (.int ((((p0).toUInt32 >>> ((2 : Int32) &&& 31).toUInt32).toInt32) &&& (3 : Int32))), .val (.int ((((p0).toUInt32 >>> ((4 : Int32) &&& 31).toUInt32).toInt32) &&& (1 : Int32))), .val (.double e0d), .second, .val (.double e1d), .second, .val (.double e2d), .second, .val (.ref b3), .val (.int (0 : Int32)), .unset, .unset] [(.int (1 : Int32)), (.ref b3)])) (by intro t k; exact XS.iconst X4.here hx rfl (hb hby at_100) k) ?_
          refine go (T' := T4) (f' := (mkF m 103 #[.val (.int p0), .val (.int p1), .val (.int p2), .val (.int p3), .val (.int (0 : Int32)), .val (.int (1 : Int32)), .val (.int ((((p0).toUInt32 >>> ((2 : Int32) &&& 31).toUInt32).toInt32) &&& (3 : Int32))), .val (.int ((((p0).toUInt32 >>> ((4 : Int32) &&& 31).toUInt32).toInt32) &&& (1 : Int32))), .val (.double e0d), .second, .val (.double e1d), .second, .val (.double e2d), .second, .val (.ref b3), .val (.int (0 : Int32)), .unset, .unset] [(.double e1d), (.int (1 : Int32)), (.ref b3)])) (by intro t k; exact XS.dload X4.here hx rfl (hb hby at_101) rfl k) ?_
          obtain ⟨cq19, kq19, q19a, q19b, q19c⟩ := isOf hZ rfl E4
          obtain ⟨_, _, ⟨T19, Lz19, kz19, nz19⟩, -, X19, ⟨Lc19, hQ19, lz19, yz19, zz19⟩, st19⟩ := X4.virtualBack hx (y := moffer) (z := moffer) hown (mvT hZ (tw hw 44 rfl)) (mvT hZ (tw hw 45 rfl)) (notFace_of_selects (args := #[]) (mvT hZ (tw hw 47 rfl))) (mvT hZ (tw hw 47 rfl)) (mvT hZ (tw hw 46 rfl)) (by decide) (backOf (W := 0) (rm8t16 l Z aw hw [] b3 e1d bh bd bp (0 : UInt64) (0 : UInt64)  T4.heap n0 Z4 ⟨E4, Fh4, Fd4, Fp4, Fs4, Ft4, Ah4, Ad4, Ap4, g04, gh4, gd4, gp4, n0h4, n0d4, n0p4, nhd4, nhp4, ndp4⟩) hZ (tw hw 48 rfl) (tw hw 2 rfl) (by decide) (by decide)) q19a q19c (g := (mkF m 103 #[.val (.int p0), .val (.int p1), .val (.int p2), .val (.int p3), .val (.int (0 : Int32)), .val (.int (1 : Int32)), .val (.int ((((p0).toUInt32 >>> ((2 : Int32) &&& 31).toUInt32).toInt32) &&& (3 : Int32))), .val (.int ((((p0).toUInt32 >>> ((4 : Int32) &&& 31).toUInt32).toInt32) &&& (1 : Int32))), .val (.double e0d), .second, .val (.double e1d), .second, .val (.double e2d), .second, .val (.ref b3), .val (.int (0 : Int32)), .unset, .unset] [(.double e1d), (.int (1 : Int32)), (.ref b3)])) rfl (by rw [hml]; rfl) (Steps.refl _) (argsL := [(.int (1 : Int32)), (.double e1d)]) (rest := []) (lenOf pd_28ID29V rfl) rfl (by show 2 * 0 + _ ≤ _; exact Nat.le_of_eq rfl) (hb hby at_103) (fun _ _ => ⟨rfl, rfl, (by decide : 4 + 0 ≤ _), (by decide : 11 + 0 ≤ _)⟩)
          dsimp only [Pt.U, Pt.locs, Pt.cells, Pt.slots] at X19 lz19 yz19 zz19 st19 hQ19
          subst lz19 yz19 zz19
          obtain ⟨rfl, N19q, K19, hD19⟩ := hQ19
          have E19_b3 := Exa.keep E4 K19
          have Z19 : n0 ≤ T19.heap.size := Nat.le_trans Z4 K19.1
          obtain ⟨E19, Fh19, Fd19, Fp19, Fs19, Ft19, Ah19, Ad19, Ap19, g019, gh19, gd19, gp19, n0h19, n0d19, n0p19, nhd19, nhp19, ndp19⟩ := hD19
          have N19 := Fr.app N4 N19q
          refine go (fun _ k => st19.trans k) ?_
          show Run _ _ _ _ _ _ _ T19 (mkF m 106 #[.val (.int p0), .val (.int p1), .val (.int p2), .val (.int p3), .val (.int (0 : Int32)), .val (.int (1 : Int32)), .val (.int ((((p0).toUInt32 >>> ((2 : Int32) &&& 31).toUInt32).toInt32) &&& (3 : Int32))), .val (.int ((((p0).toUInt32 >>> ((4 : Int32) &&& 31).toUInt32).toInt32) &&& (1 : Int32))), .val (.double e0d), .second, .val (.double e1d), .second, .val (.double e2d), .second, .val (.ref b3), .val (.int (0 : Int32)), .unset, .unset] [])
          refine go (T' := T19) (f' := (mkF m 109 #[.val (.int p0), .val (.int p1), .val (.int p2), .val (.int p3), .val (.int (0 : Int32)), .val (.int (1 : Int32)), .val (.int ((((p0).toUInt32 >>> ((2 : Int32) &&& 31).toUInt32).toInt32) &&& (3 : Int32))), .val (.int ((((p0).toUInt32 >>> ((4 : Int32) &&& 31).toUInt32).toInt32) &&& (1 : Int32))), .val (.double e0d), .second, .val (.double e1d), .second, .val (.double e2d), .second, .val (.ref b3), .val (.int (1 : Int32)), .unset, .unset] [])) (by intro t k; exact XS.iinc X19.here hx rfl (hb hby at_106) rfl (l' := #[.val (.int p0), .val (.int p1), .val (.int p2), .val (.int p3), .val (.int (0 : Int32)), .val (.int (1 : Int32)), .val (.int ((((p0).toUInt32 >>> ((2 : Int32) &&& 31).toUInt32).toInt32) &&& (3 : Int32))), .val (.int ((((p0).toUInt32 >>> ((4 : Int32) &&& 31).toUInt32).toInt32) &&& (1 : Int32))), .val (.double e0d), .second, .val (.double e1d), .second, .val (.double e2d), .second, .val (.ref b3), .val (.int (1 : Int32)), .unset, .unset]) rfl k) ?_
          refine go (T' := T19) (f' := (mkF m 111 #[.val (.int p0), .val (.int p1), .val (.int p2), .val (.int p3), .val (.int (0 : Int32)), .val (.int (1 : Int32)), .val (.int ((((p0).toUInt32 >>> ((2 : Int32) &&& 31).toUInt32).toInt32) &&& (3 : Int32))), .val (.int ((((p0).toUInt32 >>> ((4 : Int32) &&& 31).toUInt32).toInt32) &&& (1 : Int32))), .val (.double e0d), .second, .val (.double e1d), .second, .val (.double e2d), .second, .val (.ref b3), .val (.int (1 : Int32)), .unset, .unset] [(.int ((((p0).toUInt32 >>> ((2 : Int32) &&& 31).toUInt32).toInt32) &&& (3 : Int32)))])) (by intro t k; exact XS.iload X19.here hx rfl (hb hby at_109) rfl k) ?_
          refine go (T' := T19) (f' := (mkF m 113 #[.val (.int p0), .val (.int p1), .val (.int p2), .val (.int p3), .val (.int (0 : Int32)), .val (.int (1 : Int32)), .val (.int ((((p0).toUInt32 >>> ((2 : Int32) &&& 31).toUInt32).toInt32) &&& (3 : Int32))), .val (.int ((((p0).toUInt32 >>> ((4 : Int32) &&& 31).toUInt32).toInt32) &&& (1 : Int32))), .val (.double e0d), .second, .val (.double e1d), .second, .val (.double e2d), .second, .val (.ref b3), .val (.int (1 : Int32)), .unset, .unset] [(.int (1 : Int32)), (.int ((((p0).toUInt32 >>> ((2 : Int32) &&& 31).toUInt32).toInt32) &&& (3 : Int32)))])) (by intro t k; exact XS.iload X19.here hx rfl (hb hby at_111) rfl k) ?_
          obtain ⟨_, _, ⟨T20, Lz20, kz20, nz20⟩, -, X20, ⟨Lc20, hQ20, lz20, yz20, zz20⟩, st20⟩ := Jvm.LawKit.callS X19 hx (y := (⟨"java/lang/Math", "min", "(II)I"⟩ : MethodName)) hown (mvT hZ (tw hw 21 rfl)) (mvT hZ (tw hw 22 rfl)) (mvT hZ (tw hw 23 rfl)) (mvT hZ (tw hw 24 rfl)) (by decide) (backOf (W := 0) (rm4 l Z aw hw [] ((((p0).toUInt32 >>> ((2 : Int32) &&& 31).toUInt32).toInt32) &&& (3 : Int32)) (1 : Int32)  T19.heap n0 Z19 ) hZ (tw hw 24 rfl) (tw hw 23 rfl) (by decide) (by decide)) (g := (mkF m 113 #[.val (.int p0), .val (.int p1), .val (.int p2), .val (.int p3), .val (.int (0 : Int32)), .val (.int (1 : Int32)), .val (.int ((((p0).toUInt32 >>> ((2 : Int32) &&& 31).toUInt32).toInt32) &&& (3 : Int32))), .val (.int ((((p0).toUInt32 >>> ((4 : Int32) &&& 31).toUInt32).toInt32) &&& (1 : Int32))), .val (.double e0d), .second, .val (.double e1d), .second, .val (.double e2d), .second, .val (.ref b3), .val (.int (1 : Int32)), .unset, .unset] [(.int (1 : Int32)), (.int ((((p0).toUInt32 >>> ((2 : Int32) &&& 31).toUInt32).toInt32) &&& (3 : Int32)))])) rfl (by rw [hml]; rfl) (argsL := [(.int ((((p0).toUInt32 >>> ((2 : Int32) &&& 31).toUInt32).toInt32) &&& (3 : Int32))), (.int (1 : Int32))]) (rest := []) (lenOf pd_28II29I rfl) rfl (by show 2 * 0 + _ ≤ _; exact Nat.le_of_eq rfl) (hb hby at_113) (fun _ _ => ⟨rfl, rfl, (by decide : 4 + 0 ≤ _), (by decide : 11 + 0 ≤ _)⟩)
          dsimp only [Pt.U, Pt.locs, Pt.cells, Pt.slots] at X20 lz20 yz20 zz20 st20 hQ20
          subst lz20 yz20 zz20
          obtain ⟨rfl, N20q, e20⟩ := hQ20
          have N20 := Fr.app N19 N20q
          refine go st20 ?_
          obtain ⟨z21, hz21⟩ : ∃ z : Int32, z = (own_min ((((p0).toUInt32 >>> ((2 : Int32) &&& 31).toUInt32).toInt32) &&& (3 : Int32)) (1 : Int32)) := ⟨_, rfl⟩
          rw [← hz21]
          rcases (own_p1 hz21 : z21 = (0 : Int32) ∨ z21 = (1 : Int32)) with ez | ez
          · subst ez
            show Run _ _ _ _ _ _ _ T20 (mkF m 116 #[.val (.int p0), .val (.int p1), .val (.int p2), .val (.int p3), .val (.int (0 : Int32)), .val (.int (1 : Int32)), .val (.int ((((p0).toUInt32 >>> ((2 : Int32) &&& 31).toUInt32).toInt32) &&& (3 : Int32))), .val (.int ((((p0).toUInt32 >>> ((4 : Int32) &&& 31).toUInt32).toInt32) &&& (1 : Int32))), .val (.double e0d), .second, .val (.double e1d), .second, .val (.double e2d), .second, .val (.ref b3), .val (.int (1 : Int32)), .unset, .unset] [(.int (0 : Int32))])
            refine go (T' := T20) (f' := (mkF m 118 #[.val (.int p0), .val (.int p1), .val (.int p2), .val (.int p3), .val (.int (0 : Int32)), .val (.int (1 : Int32)), .val (.int ((((p0).toUInt32 >>> ((2 : Int32) &&& 31).toUInt32).toInt32) &&& (3 : Int32))), .val (.int ((((p0).toUInt32 >>> ((4 : Int32) &&& 31).toUInt32).toInt32) &&& (1 : Int32))), .val (.double e0d), .second, .val (.double e1d), .second, .val (.double e2d), .second, .val (.ref b3), .val (.int (1 : Int32)), .val (.int (0 : Int32)), .unset] [])) (by intro t k; exact XS.istore X20.here hx rfl (hb hby at_116) rfl (l' := #[.val (.int p0), .val (.int p1), .val (.int p2), .val (.int p3), .val (.int (0 : Int32)), .val (.int (1 : Int32)), .val (.int ((((p0).toUInt32 >>> ((2 : Int32) &&& 31).toUInt32).toInt32) &&& (3 : Int32))), .val (.int ((((p0).toUInt32 >>> ((4 : Int32) &&& 31).toUInt32).toInt32) &&& (1 : Int32))), .val (.double e0d), .second, .val (.double e1d), .second, .val (.double e2d), .second, .val (.ref b3), .val (.int (1 : Int32)), .val (.int (0 : Int32)), .unset]) rfl k) ?_
            refine go (T' := T20) (f' := (mkF m 120 #[.val (.int p0), .val (.int p1), .val (.int p2), .val (.int p3), .val (.int (0 : Int32)), .val (.int (1 : Int32)), .val (.int ((((p0).toUInt32 >>> ((2 : Int32) &&& 31).toUInt32).toInt32) &&& (3 : Int32))), .val (.int ((((p0).toUInt32 >>> ((4 : Int32) &&& 31).toUInt32).toInt32) &&& (1 : Int32))), .val (.double e0d), .second, .val (.double e1d), .second, .val (.double e2d), .second, .val (.ref b3), .val (.int (1 : Int32)), .val (.int (0 : Int32)), .unset] [(.int (0 : Int32))])) (by intro t k; exact XS.iload X20.here hx rfl (hb hby at_118) rfl k) ?_
            refine go (T' := T20) (f' := (mkF m 121 #[.val (.int p0), .val (.int p1), .val (.int p2), .val (.int p3), .val (.int (0 : Int32)), .val (.int (1 : Int32)), .val (.int ((((p0).toUInt32 >>> ((2 : Int32) &&& 31).toUInt32).toInt32) &&& (3 : Int32))), .val (.int ((((p0).toUInt32 >>> ((4 : Int32) &&& 31).toUInt32).toInt32) &&& (1 : Int32))), .val (.double e0d), .second, .val (.double e1d), .second, .val (.double e2d), .second, .val (.ref b3), .val (.int (1 : Int32)), .val (.int (0 : Int32)), .unset] [(.int (1 : Int32)), (.int (0 : Int32))])) (by intro t k; exact XS.iconst X20.here hx rfl (hb hby at_120) k) ?_
            refine go (T' := T20) (f' := (mkF m 130 #[.val (.int p0), .val (.int p1), .val (.int p2), .val (.int p3), .val (.int (0 : Int32)), .val (.int (1 : Int32)), .val (.int ((((p0).toUInt32 >>> ((2 : Int32) &&& 31).toUInt32).toInt32) &&& (3 : Int32))), .val (.int ((((p0).toUInt32 >>> ((4 : Int32) &&& 31).toUInt32).toInt32) &&& (1 : Int32))), .val (.double e0d), .second, .val (.double e1d), .second, .val (.double e2d), .second, .val (.ref b3), .val (.int (1 : Int32)), .val (.int (0 : Int32)), .unset] [])) (by intro t k; exact XS.icmpYes X20.here hx rfl (pc0 := 121) (pc' := 130) rfl (hb hby at_121) rfl (tlt (by decide : (0 : Int32) < (1 : Int32))).1 (by decide) (by decide) k) ?_
            refine go (T' := T20) (f' := (mkF m 132 #[.val (.int p0), .val (.int p1), .val (.int p2), .val (.int p3), .val (.int (0 : Int32)), .val (.int (1 : Int32)), .val (.int ((((p0).toUInt32 >>> ((2 : Int32) &&& 31).toUInt32).toInt32) &&& (3 : Int32))), .val (.int ((((p0).toUInt32 >>> ((4 : Int32) &&& 31).toUInt32).toInt32) &&& (1 : Int32))), .val (.double e0d), .second, .val (.double e1d), .second, .val (.double e2d), .second, .val (.ref b3), .val (.int (1 : Int32)), .val (.int (0 : Int32)), .unset] [(.int (0 : Int32))])) (by intro t k; exact XS.iload X20.here hx rfl (hb hby at_130) rfl k) ?_
            refine go (T' := T20) (f' := (mkF m 133 #[.val (.int p0), .val (.int p1), .val (.int p2), .val (.int p3), .val (.int (0 : Int32)), .val (.int (1 : Int32)), .val (.int ((((p0).toUInt32 >>> ((2 : Int32) &&& 31).toUInt32).toInt32) &&& (3 : Int32))), .val (.int ((((p0).toUInt32 >>> ((4 : Int32) &&& 31).toUInt32).toInt32) &&& (1 : Int32))), .val (.double e0d), .second, .val (.double e1d), .second, .val (.double e2d), .second, .val (.ref b3), .val (.int (1 : Int32)), .val (.int (0 : Int32)), .unset] [(.int (2 : Int32)), (.int (0 : Int32))])) (by intro t k; exact XS.iconst X20.here hx rfl (hb hby at_132) k) ?_
            refine go (T' := T20) (f' := (mkF m 142 #[.val (.int p0), .val (.int p1), .val (.int p2), .val (.int p3), .val (.int (0 : Int32)), .val (.int (1 : Int32)), .val (.int ((((p0).toUInt32 >>> ((2 : Int32) &&& 31).toUInt32).toInt32) &&& (3 : Int32))), .val (.int ((((p0).toUInt32 >>> ((4 : Int32) &&& 31).toUInt32).toInt32) &&& (1 : Int32))), .val (.double e0d), .second, .val (.double e1d), .second, .val (.double e2d), .second, .val (.ref b3), .val (.int (1 : Int32)), .val (.int (0 : Int32)), .unset] [])) (by intro t k; exact XS.icmpYes X20.here hx rfl (pc0 := 133) (pc' := 142) rfl (hb hby at_133) rfl (tlt (by decide : (0 : Int32) < (2 : Int32))).1 (by decide) (by decide) k) ?_
            refine go (T' := T20) (f' := (mkF m 144 #[.val (.int p0), .val (.int p1), .val (.int p2), .val (.int p3), .val (.int (0 : Int32)), .val (.int (1 : Int32)), .val (.int ((((p0).toUInt32 >>> ((2 : Int32) &&& 31).toUInt32).toInt32) &&& (3 : Int32))), .val (.int ((((p0).toUInt32 >>> ((4 : Int32) &&& 31).toUInt32).toInt32) &&& (1 : Int32))), .val (.double e0d), .second, .val (.double e1d), .second, .val (.double e2d), .second, .val (.ref b3), .val (.int (1 : Int32)), .val (.int (0 : Int32)), .unset] [(.ref b3)])) (by intro t k; exact XS.aload X20.here hx rfl (hb hby at_142) rfl rfl k) ?_
            obtain ⟨cq22, kq22, q22a, q22b, q22c⟩ := isOf hZ e20 E19
            obtain ⟨_, _, ⟨T22, Lz22, kz22, nz22⟩, -, X22, ⟨Lc22, hQ22, lz22, yz22, zz22⟩, st22⟩ := X20.virtualBack hx (y := mclear) (z := mclear) hown (mvT hZ (tw hw 25 rfl)) (mvT hZ (tw hw 26 rfl)) (notFace_of_selects (args := #[]) (mvT hZ (tw hw 28 rfl))) (mvT hZ (tw hw 28 rfl)) (mvT hZ (tw hw 27 rfl)) (by decide) (backOf (W := 0) (rm5t19 l Z aw hw [] b3 bh bd bp (0 : UInt64) e1d  T19.heap n0 Z19 ⟨E19, Fh19, Fd19, Fp19, Fs19, Ft19, Ah19, Ad19, Ap19, g019, gh19, gd19, gp19, n0h19, n0d19, n0p19, nhd19, nhp19, ndp19⟩) hZ (tw hw 29 rfl) (tw hw 2 rfl) (by decide) (by decide)) q22a q22c (g := (mkF m 144 #[.val (.int p0), .val (.int p1), .val (.int p2), .val (.int p3), .val (.int (0 : Int32)), .val (.int (1 : Int32)), .val (.int ((((p0).toUInt32 >>> ((2 : Int32) &&& 31).toUInt32).toInt32) &&& (3 : Int32))), .val (.int ((((p0).toUInt32 >>> ((4 : Int32) &&& 31).toUInt32).toInt32) &&& (1 : Int32))), .val (.double e0d), .second, .val (.double e1d), .second, .val (.double e2d), .second, .val (.ref b3), .val (.int (1 : Int32)), .val (.int (0 : Int32)), .unset] [(.ref b3)])) rfl (by rw [hml]; rfl) (Steps.refl _) (argsL := []) (rest := []) (lenOf pd_2829V rfl) rfl (by show 2 * 0 + _ ≤ _; exact Nat.le_of_eq rfl) (hb hby at_144) (fun _ _ => ⟨rfl, e20, (by decide : 4 + 0 ≤ _), (by decide : 11 + 0 ≤ _)⟩)
            dsimp only [Pt.U, Pt.locs, Pt.cells, Pt.slots] at X22 lz22 yz22 zz22 st22 hQ22
            subst lz22 yz22 zz22
            obtain ⟨rfl, N22q, K22, hD22⟩ := hQ22
            have E22_b3 := Exa.keep E19 K22
            have Z22 : n0 ≤ T22.heap.size := Nat.le_trans Z19 K22.1
            obtain ⟨E22, Fh22, Fd22, Fp22, Fs22, Ft22, Ah22, Ad22, Ap22, g022, gh22, gd22, gp22, n0h22, n0d22, n0p22, nhd22, nhp22, ndp22⟩ := hD22
            have N22 := Fr.app N20 N22q
            refine go (fun _ k => st22.trans k) ?_
            show Run _ _ _ _ _ _ _ T22 (mkF m 147 #[.val (.int p0), .val (.int p1), .val (.int p2), .val (.int p3), .val (.int (0 : Int32)), .val (.int (1 : Int32)), .val (.int ((((p0).toUInt32 >>> ((2 : Int32) &&& 31).toUInt32).toInt32) &&& (3 : Int32))), .val (.int ((((p0).toUInt32 >>> ((4 : Int32) &&& 31).toUInt32).toInt32) &&& (1 : Int32))), .val (.double e0d), .second, .val (.double e1d), .second, .val (.double e2d), .second, .val (.ref b3), .val (.int (1 : Int32)), .val (.int (0 : Int32)), .unset] [])
            exact JC (1 : Int32) (0 : Int32) (0 : UInt64) e1d (.val (.int (0 : Int32))) (.val (.int (1 : Int32))) (.val (.int ((((p0).toUInt32 >>> ((2 : Int32) &&& 31).toUInt32).toInt32) &&& (3 : Int32)))) (.val (.int (1 : Int32))) (.val (.int (0 : Int32))) T22 T22.heap _ X22 rfl N22 Z22 ⟨E22, Fh22, Fd22, Fp22, Fs22, Ft22, Ah22, Ad22, Ap22, g022, gh22, gd22, gp22, n0h22, n0d22, n0p22, nhd22, nhp22, ndp22⟩
          · subst ez
            show Run _ _ _ _ _ _ _ T20 (mkF m 116 #[.val (.int p0), .val (.int p1), .val (.int p2), .val (.int p3), .val (.int (0 : Int32)), .val (.int (1 : Int32)), .val (.int ((((p0).toUInt32 >>> ((2 : Int32) &&& 31).toUInt32).toInt32) &&& (3 : Int32))), .val (.int ((((p0).toUInt32 >>> ((4 : Int32) &&& 31).toUInt32).toInt32) &&& (1 : Int32))), .val (.double e0d), .second, .val (.double e1d), .second, .val (.double e2d), .second, .val (.ref b3), .val (.int (1 : Int32)), .unset, .unset] [(.int (1 : Int32))])
            refine go (T' := T20) (f' := (mkF m 118 #[.val (.int p0), .val (.int p1), .val (.int p2), .val (.int p3), .val (.int (0 : Int32)), .val (.int (1 : Int32)), .val (.int ((((p0).toUInt32 >>> ((2 : Int32) &&& 31).toUInt32).toInt32) &&& (3 : Int32))), .val (.int ((((p0).toUInt32 >>> ((4 : Int32) &&& 31).toUInt32).toInt32) &&& (1 : Int32))), .val (.double e0d), .second, .val (.double e1d), .second, .val (.double e2d), .second, .val (.ref b3), .val (.int (1 : Int32)), .val (.int (1 : Int32)), .unset] [])) (by intro t k; exact XS.istore X20.here hx rfl (hb hby at_116) rfl (l' := #[.val (.int p0), .val (.int p1), .val (.int p2), .val (.int p3), .val (.int (0 : Int32)), .val (.int (1 : Int32)), .val (.int ((((p0).toUInt32 >>> ((2 : Int32) &&& 31).toUInt32).toInt32) &&& (3 : Int32))), .val (.int ((((p0).toUInt32 >>> ((4 : Int32) &&& 31).toUInt32).toInt32) &&& (1 : Int32))), .val (.double e0d), .second, .val (.double e1d), .second, .val (.double e2d), .second, .val (.ref b3), .val (.int (1 : Int32)), .val (.int (1 : Int32)), .unset]) rfl k) ?_
            refine go (T' := T20) (f' := (mkF m 120 #[.val (.int p0), .val (.int p1), .val (.int p2), .val (.int p3), .val (.int (0 : Int32)), .val (.int (1 : Int32)), .val (.int ((((p0).toUInt32 >>> ((2 : Int32) &&& 31).toUInt32).toInt32) &&& (3 : Int32))), .val (.int ((((p0).toUInt32 >>> ((4 : Int32) &&& 31).toUInt32).toInt32) &&& (1 : Int32))), .val (.double e0d), .second, .val (.double e1d), .second, .val (.double e2d), .second, .val (.ref b3), .val (.int (1 : Int32)), .val (.int (1 : Int32)), .unset] [(.int (1 : Int32))])) (by intro t k; exact XS.iload X20.here hx rfl (hb hby at_118) rfl k) ?_
            refine go (T' := T20) (f' := (mkF m 121 #[.val (.int p0), .val (.int p1), .val (.int p2), .val (.int p3), .val (.int (0 : Int32)), .val (.int (1 : Int32)), .val (.int ((((p0).toUInt32 >>> ((2 : Int32) &&& 31).toUInt32).toInt32) &&& (3 : Int32))), .val (.int ((((p0).toUInt32 >>> ((4 : Int32) &&& 31).toUInt32).toInt32) &&& (1 : Int32))), .val (.double e0d), .second, .val (.double e1d), .second, .val (.double e2d), .second, .val (.ref b3), .val (.int (1 : Int32)), .val (.int (1 : Int32)), .unset] [(.int (1 : Int32)), (.int (1 : Int32))])) (by intro t k; exact XS.iconst X20.here hx rfl (hb hby at_120) k) ?_
            refine go (T' := T20) (f' := (mkF m 124 #[.val (.int p0), .val (.int p1), .val (.int p2), .val (.int p3), .val (.int (0 : Int32)), .val (.int (1 : Int32)), .val (.int ((((p0).toUInt32 >>> ((2 : Int32) &&& 31).toUInt32).toInt32) &&& (3 : Int32))), .val (.int ((((p0).toUInt32 >>> ((4 : Int32) &&& 31).toUInt32).toInt32) &&& (1 : Int32))), .val (.double e0d), .second, .val (.double e1d), .second, .val (.double e2d), .second, .val (.ref b3), .val (.int (1 : Int32)), .val (.int (1 : Int32)), .unset] [])) (by intro t k; exact XS.icmpNo X20.here hx rfl (hb hby at_121) rfl (flt (by decide : ¬ ((1 : Int32) < (1 : Int32)))).1 k) ?_
            refine go (T' := T20) (f' := (mkF m 126 #[.val (.int p0), .val (.int p1), .val (.int p2), .val (.int p3), .val (.int (0 : Int32)), .val (.int (1 : Int32)), .val (.int ((((p0).toUInt32 >>> ((2 : Int32) &&& 31).toUInt32).toInt32) &&& (3 : Int32))), .val (.int ((((p0).toUInt32 >>> ((4 : Int32) &&& 31).toUInt32).toInt32) &&& (1 : Int32))), .val (.double e0d), .second, .val (.double e1d), .second, .val (.double e2d), .second, .val (.ref b3), .val (.int (1 : Int32)), .val (.int (1 : Int32)), .unset] [(.ref b3)])) (by intro t k; exact XS.aload X20.here hx rfl (hb hby at_124) rfl rfl k) ?_
            obtain ⟨cq23, kq23, q23a, q23b, q23c⟩ := isOf hZ e20 E19
            obtain ⟨_, _, ⟨T23, Lz23, kz23, nz23⟩, -, X23, ⟨Lc23, hQ23, lz23, yz23, zz23⟩, st23⟩ := X20.virtualBack hx (y := mpoll) (z := mpoll) hown (mvT hZ (tw hw 57 rfl)) (mvT hZ (tw hw 58 rfl)) (notFace_of_selects (args := #[]) (mvT hZ (tw hw 60 rfl))) (mvT hZ (tw hw 60 rfl)) (mvT hZ (tw hw 59 rfl)) (by decide) (backOf (W := 0) (rm11t20 l Z aw hw [] b3 bh bd bp (0 : UInt64) e1d  T19.heap n0 Z19 ⟨E19, Fh19, Fd19, Fp19, Fs19, Ft19, Ah19, Ad19, Ap19, g019, gh19, gd19, gp19, n0h19, n0d19, n0p19, nhd19, nhp19, ndp19⟩) hZ (tw hw 61 rfl) (tw hw 2 rfl) (by decide) (by decide)) q23a q23c (g := (mkF m 126 #[.val (.int p0), .val (.int p1), .val (.int p2), .val (.int p3), .val (.int (0 : Int32)), .val (.int (1 : Int32)), .val (.int ((((p0).toUInt32 >>> ((2 : Int32) &&& 31).toUInt32).toInt32) &&& (3 : Int32))), .val (.int ((((p0).toUInt32 >>> ((4 : Int32) &&& 31).toUInt32).toInt32) &&& (1 : Int32))), .val (.double e0d), .second, .val (.double e1d), .second, .val (.double e2d), .second, .val (.ref b3), .val (.int (1 : Int32)), .val (.int (1 : Int32)), .unset] [(.ref b3)])) rfl (by rw [hml]; rfl) (Steps.refl _) (argsL := []) (rest := []) (lenOf pd_2829I rfl) rfl (by show 2 * 0 + _ ≤ _; exact Nat.le_of_eq rfl) (hb hby at_126) (fun _ _ => ⟨rfl, e20, (by decide : 4 + 0 ≤ _), (by decide : 11 + 0 ≤ _)⟩)
            dsimp only [Pt.U, Pt.locs, Pt.cells, Pt.slots] at X23 lz23 yz23 zz23 st23 hQ23
            subst lz23 yz23 zz23
            obtain ⟨rfl, N23q, K23, hD23⟩ := hQ23
            have E23_b3 := Exa.keep E19 K23
            have Z23 : n0 ≤ T23.heap.size := Nat.le_trans Z19 K23.1
            obtain ⟨E23, Fh23, Fd23, Fp23, Fs23, Ft23, Ah23, Ad23, Ap23, g023, gh23, gd23, gp23, n0h23, n0d23, n0p23, nhd23, nhp23, ndp23⟩ := hD23
            have N23 := Fr.app N20 N23q
            refine go (fun _ k => st23.trans k) ?_
            show Run _ _ _ _ _ _ _ T23 (mkF m 129 #[.val (.int p0), .val (.int p1), .val (.int p2), .val (.int p3), .val (.int (0 : Int32)), .val (.int (1 : Int32)), .val (.int ((((p0).toUInt32 >>> ((2 : Int32) &&& 31).toUInt32).toInt32) &&& (3 : Int32))), .val (.int ((((p0).toUInt32 >>> ((4 : Int32) &&& 31).toUInt32).toInt32) &&& (1 : Int32))), .val (.double e0d), .second, .val (.double e1d), .second, .val (.double e2d), .second, .val (.ref b3), .val (.int (1 : Int32)), .val (.int (1 : Int32)), .unset] [(.int (1 : Int32))])
            refine go (T' := T23) (f' := (mkF m 130 #[.val (.int p0), .val (.int p1), .val (.int p2), .val (.int p3), .val (.int (0 : Int32)), .val (.int (1 : Int32)), .val (.int ((((p0).toUInt32 >>> ((2 : Int32) &&& 31).toUInt32).toInt32) &&& (3 : Int32))), .val (.int ((((p0).toUInt32 >>> ((4 : Int32) &&& 31).toUInt32).toInt32) &&& (1 : Int32))), .val (.double e0d), .second, .val (.double e1d), .second, .val (.double e2d), .second, .val (.ref b3), .val (.int (1 : Int32)), .val (.int (1 : Int32)), .unset] [])) (by intro t k; exact XS.pop X23.here hx rfl (hb hby at_129) rfl rfl k) ?_
            refine go (T' := T23) (f' := (mkF m 132 #[.val (.int p0), .val (.int p1), .val (.int p2), .val (.int p3), .val (.int (0 : Int32)), .val (.int (1 : Int32)), .val (.int ((((p0).toUInt32 >>> ((2 : Int32) &&& 31).toUInt32).toInt32) &&& (3 : Int32))), .val (.int ((((p0).toUInt32 >>> ((4 : Int32) &&& 31).toUInt32).toInt32) &&& (1 : Int32))), .val (.double e0d), .second, .val (.double e1d), .second, .val (.double e2d), .second, .val (.ref b3), .val (.int (1 : Int32)), .val (.int (1 : Int32)), .unset] [(.int (1 : Int32))])) (by intro t k; exact XS.iload X23.here hx rfl (hb hby at_130) rfl k) ?_
            refine go (T' := T23) (f' := (mkF m 133 #[.val (.int p0), .val (.int p1), .val (.int p2), .val (.int p3), .val (.int (0 : Int32)), .val (.int (1 : Int32)), .val (.int ((((p0).toUInt32 >>> ((2 : Int32) &&& 31).toUInt32).toInt32) &&& (3 : Int32))), .val (.int ((((p0).toUInt32 >>> ((4 : Int32) &&& 31).toUInt32).toInt32) &&& (1 : Int32))), .val (.double e0d), .second, .val (.double e1d), .second, .val (.double e2d), .second, .val (.ref b3), .val (.int (1 : Int32)), .val (.int (1 : Int32)), .unset] [(.int (2 : Int32)), (.int (1 : Int32))])) (by intro t k; exact XS.iconst X23.here hx rfl (hb hby at_132) k) ?_
            refine go (T' := T23) (f' := (mkF m 142 #[.val (.int p0), .val (.int p1), .val (.int p2), .val (.int p3), .val (.int (0 : Int32)), .val (.int (1 : Int32)), .val (.int ((((p0).toUInt32 >>> ((2 : Int32) &&& 31).toUInt32).toInt32) &&& (3 : Int32))), .val (.int ((((p0).toUInt32 >>> ((4 : Int32) &&& 31).toUInt32).toInt32) &&& (1 : Int32))), .val (.double e0d), .second, .val (.double e1d), .second, .val (.double e2d), .second, .val (.ref b3), .val (.int (1 : Int32)), .val (.int (1 : Int32)), .unset] [])) (by intro t k; exact XS.icmpYes X23.here hx rfl (pc0 := 133) (pc' := 142) rfl (hb hby at_133) rfl (tlt (by decide : (1 : Int32) < (2 : Int32))).1 (by decide) (by decide) k) ?_
            refine go (T' := T23) (f' := (mkF m 144 #[.val (.int p0), .val (.int p1), .val (.int p2), .val (.int p3), .val (.int (0 : Int32)), .val (.int (1 : Int32)), .val (.int ((((p0).toUInt32 >>> ((2 : Int32) &&& 31).toUInt32).toInt32) &&& (3 : Int32))), .val (.int ((((p0).toUInt32 >>> ((4 : Int32) &&& 31).toUInt32).toInt32) &&& (1 : Int32))), .val (.double e0d), .second, .val (.double e1d), .second, .val (.double e2d), .second, .val (.ref b3), .val (.int (1 : Int32)), .val (.int (1 : Int32)), .unset] [(.ref b3)])) (by intro t k; exact XS.aload X23.here hx rfl (hb hby at_142) rfl rfl k) ?_
            obtain ⟨cq24, kq24, q24a, q24b, q24c⟩ := isOf hZ rfl E23
            obtain ⟨_, _, ⟨T24, Lz24, kz24, nz24⟩, -, X24, ⟨Lc24, hQ24, lz24, yz24, zz24⟩, st24⟩ := X23.virtualBack hx (y := mclear) (z := mclear) hown (mvT hZ (tw hw 25 rfl)) (mvT hZ (tw hw 26 rfl)) (notFace_of_selects (args := #[]) (mvT hZ (tw hw 28 rfl))) (mvT hZ (tw hw 28 rfl)) (mvT hZ (tw hw 27 rfl)) (by decide) (backOf (W := 0) (rm5t21 l Z aw hw [] b3 bh bd bp (0 : UInt64) e1d  T23.heap n0 Z23 ⟨E23, Fh23, Fd23, Fp23, Fs23, Ft23, Ah23, Ad23, Ap23, g023, gh23, gd23, gp23, n0h23, n0d23, n0p23, nhd23, nhp23, ndp23⟩) hZ (tw hw 29 rfl) (tw hw 2 rfl) (by decide) (by decide)) q24a q24c (g := (mkF m 144 #[.val (.int p0), .val (.int p1), .val (.int p2), .val (.int p3), .val (.int (0 : Int32)), .val (.int (1 : Int32)), .val (.int ((((p0).toUInt32 >>> ((2 : Int32) &&& 31).toUInt32).toInt32) &&& (3 : Int32))), .val (.int ((((p0).toUInt32 >>> ((4 : Int32) &&& 31).toUInt32).toInt32) &&& (1 : Int32))), .val (.double e0d), .second, .val (.double e1d), .second, .val (.double e2d), .second, .val (.ref b3), .val (.int (1 : Int32)), .val (.int (1 : Int32)), .unset] [(.ref b3)])) rfl (by rw [hml]; rfl) (Steps.refl _) (argsL := []) (rest := []) (lenOf pd_2829V rfl) rfl (by show 2 * 0 + _ ≤ _; exact Nat.le_of_eq rfl) (hb hby at_144) (fun _ _ => ⟨rfl, rfl, (by decide : 4 + 0 ≤ _), (by decide : 11 + 0 ≤ _)⟩)
            dsimp only [Pt.U, Pt.locs, Pt.cells, Pt.slots] at X24 lz24 yz24 zz24 st24 hQ24
            subst lz24 yz24 zz24
            obtain ⟨rfl, N24q, K24, hD24⟩ := hQ24
            have E24_b3 := Exa.keep E23 K24
            have Z24 : n0 ≤ T24.heap.size := Nat.le_trans Z23 K24.1
            obtain ⟨E24, Fh24, Fd24, Fp24, Fs24, Ft24, Ah24, Ad24, Ap24, g024, gh24, gd24, gp24, n0h24, n0d24, n0p24, nhd24, nhp24, ndp24⟩ := hD24
            have N24 := Fr.app N23 N24q
            refine go (fun _ k => st24.trans k) ?_
            show Run _ _ _ _ _ _ _ T24 (mkF m 147 #[.val (.int p0), .val (.int p1), .val (.int p2), .val (.int p3), .val (.int (0 : Int32)), .val (.int (1 : Int32)), .val (.int ((((p0).toUInt32 >>> ((2 : Int32) &&& 31).toUInt32).toInt32) &&& (3 : Int32))), .val (.int ((((p0).toUInt32 >>> ((4 : Int32) &&& 31).toUInt32).toInt32) &&& (1 : Int32))), .val (.double e0d), .second, .val (.double e1d), .second, .val (.double e2d), .second, .val (.ref b3), .val (.int (1 : Int32)), .val (.int (1 : Int32)), .unset] [])
            exact JC (1 : Int32) (1 : Int32) (0 : UInt64) e1d (.val (.int (0 : Int32))) (.val (.int (1 : Int32))) (.val (.int ((((p0).toUInt32 >>> ((2 : Int32) &&& 31).toUInt32).toInt32) &&& (3 : Int32)))) (.val (.int (1 : Int32))) (.val (.int (1 : Int32))) T24 T24.heap _ X24 rfl N24 Z24 ⟨E24, Fh24, Fd24, Fp24, Fs24, Ft24, Ah24, Ad24, Ap24, g024, gh24, gd24, gp24, n0h24, n0d24, n0p24, nhd24, nhp24, ndp24⟩
      · subst ez
        show Run _ _ _ _ _ _ _ T4 (mkF m 79 #[.val (.int p0), .val (.int p1), .val (.int p2), .val (.int p3), .val (.int (1 : Int32)), .val (.int z2), .val (.int ((((p0).toUInt32 >>> ((2 : Int32) &&& 31).toUInt32).toInt32) &&& (3 : Int32))), .val (.int ((((p0).toUInt32 >>> ((4 : Int32) &&& 31).toUInt32).toInt32) &&& (1 : Int32))), .val (.double e0d), .second, .val (.double e1d), .second, .val (.double e2d), .second, .val (.ref b3), .val (.int (0 : Int32)), .unset, .unset] [(.int (1 : Int32))])
        refine go (T' := T4) (f' := (mkF m 82 #[.val (.int p0), .val (.int p1), .val (.int p2), .val (.int p3), .val (.int (1 : Int32)), .val (.int z2), .val (.int ((((p0).toUInt32 >>> ((2 : Int32) &&& 31).toUInt32).toInt32) &&& (3 : Int32))), .val (.int ((((p0).toUInt32 >>> ((4 : Int32) &&& 31).toUInt32).toInt32) &&& (1 : Int32))), .val (.double e0d), .second, .val (.double e1d), .second, .val (.double e2d), .second, .val (.ref b3), .val (.int (0 : Int32)), .unset, .unset] [])) (by intro t k; exact XS.ifNo X4.here hx rfl (hb hby at_79) rfl ((if0 _ _).trans (feq (by decide : ¬ ((1 : Int32) = (0 : Int32)))).1) k) ?_
        refine go (T' := T4) (f' := (mkF m 84 #[.val (.int p0), .val (.int p1), .val (.int p2), .val (.int p3), .val (.int (1 : Int32)), .val (.int z2), .val (.int ((((p0).toUInt32 >>> ((2 : Int32) &&& 31).toUInt32).toInt32) &&& (3 : Int32))), .val (.int ((((p0).toUInt32 >>> ((4 : Int32) &&& 31).toUInt32).toInt32) &&& (1 : Int32))), .val (.double e0d), .second, .val (.double e1d), .second, .val (.double e2d), .second, .val (.ref b3), .val (.int (0 : Int32)), .unset, .unset] [(.ref b3)])) (by intro t k; exact XS.aload X4.here hx rfl (hb hby at_82) rfl rfl k) ?_
        refine go (T' := T4) (f' := (mkF m 85 #[.val (.int p0), .val (.int p1), .val (.int p2), .val (.int p3), .val (.int (1 : Int32)), .val (.int z2), .val (.int ((((p0).toUInt32 >>> ((2 : Int32) &&& 31).toUInt32).toInt32) &&& (3 : Int32))), .val (.int ((((p0).toUInt32 >>> ((4 : Int32) &&& 31).toUInt32).toInt32) &&& (1 : Int32))), .val (.double e0d), .second, .val (.double e1d), .second, .val (.double e2d), .second, .val (.ref b3), .val (.int (0 : Int32)), .unset, .unset] [(.int (0 : Int32)), (.ref b3)])) (by intro t k; exact XS.iconst X4.here hx rfl (hb hby at_84) k) ?_
        refine go (T' := T4) (f' := (mkF m 87 #[.val (.int p0), .val (.int p1), .val (.int p2), .val (.int p3), .val (.int (1 : Int32)), .val (.int z2), .val (.int ((((p0).toUInt32 >>> ((2 : Int32) &&& 31).toUInt32).toInt32) &&& (3 : Int32))), .val (.int ((((p0).toUInt32 >>> ((4 : Int32) &&& 31).toUInt32).toInt32) &&& (1 : Int32))), .val (.double e0d), .second, .val (.double e1d), .second, .val (.double e2d), .second, .val (.ref b3), .val (.int (0 : Int32)), .unset, .unset] [(.double e0d), (.int (0 : Int32)), (.ref b3)])) (by intro t k; exact XS.dload X4.here hx rfl (hb hby at_85) rfl k) ?_
        obtain ⟨cq25, kq25, q25a, q25b, q25c⟩ := isOf hZ rfl E4
        obtain ⟨_, _, ⟨T25, Lz25, kz25, nz25⟩, -, X25, ⟨Lc25, hQ25, lz25, yz25, zz25⟩, st25⟩ := X4.virtualBack hx (y := moffer) (z := moffer) hown (mvT hZ (tw hw 44 rfl)) (mvT hZ (tw hw 45 rfl)) (notFace_of_selects (args := #[]) (mvT hZ (tw hw 47 rfl))) (mvT hZ (tw hw 47 rfl)) (mvT hZ (tw hw 46 rfl)) (by decide) (backOf (W := 0) (rm8t22 l Z aw hw [] b3 e0d bh bd bp (0 : UInt64) (0 : UInt64)  T4.heap n0 Z4 ⟨E4, Fh4, Fd4, Fp4, Fs4, Ft4, Ah4, Ad4, Ap4, g04, gh4, gd4, gp4, n0h4, n0d4, n0p4, nhd4, nhp4, ndp4⟩) hZ (tw hw 48 rfl) (tw hw 2 rfl) (by decide) (by decide)) q25a q25c (g := (mkF m 87 #[.val (.int p0), .val (.int p1), .val (.int p2), .val (.int p3), .val (.int (1 : Int32)), .val (.int z2), .val (.int ((((p0).toUInt32 >>> ((2 : Int32) &&& 31).toUInt32).toInt32) &&& (3 : Int32))), .val (.int ((((p0).toUInt32 >>> ((4 : Int32) &&& 31).toUInt32).toInt32) &&& (1 : Int32))), .val (.double e0d), .second, .val (.double e1d), .second, .val (.double e2d), .second, .val (.ref b3), .val (.int (0 : Int32)), .unset, .unset] [(.double e0d), (.int (0 : Int32)), (.ref b3)])) rfl (by rw [hml]; rfl) (Steps.refl _) (argsL := [(.int (0 : Int32)), (.double e0d)]) (rest := []) (lenOf pd_28ID29V rfl) rfl (by show 2 * 0 + _ ≤ _; exact Nat.le_of_eq rfl) (hb hby at_87) (fun _ _ => ⟨rfl, rfl, (by decide : 4 + 0 ≤ _), (by decide : 11 + 0 ≤ _)⟩)
        dsimp only [Pt.U, Pt.locs, Pt.cells, Pt.slots] at X25 lz25 yz25 zz25 st25 hQ25
        subst lz25 yz25 zz25
        obtain ⟨rfl, N25q, K25, hD25⟩ := hQ25
        have E25_b3 := Exa.keep E4 K25
        have Z25 : n0 ≤ T25.heap.size := Nat.le_trans Z4 K25.1
        obtain ⟨E25, Fh25, Fd25, Fp25, Fs25, Ft25, Ah25, Ad25, Ap25, g025, gh25, gd25, gp25, n0h25, n0d25, n0p25, nhd25, nhp25, ndp25⟩ := hD25
        have N25 := Fr.app N4 N25q
        refine go (fun _ k => st25.trans k) ?_
        show Run _ _ _ _ _ _ _ T25 (mkF m 90 #[.val (.int p0), .val (.int p1), .val (.int p2), .val (.int p3), .val (.int (1 : Int32)), .val (.int z2), .val (.int ((((p0).toUInt32 >>> ((2 : Int32) &&& 31).toUInt32).toInt32) &&& (3 : Int32))), .val (.int ((((p0).toUInt32 >>> ((4 : Int32) &&& 31).toUInt32).toInt32) &&& (1 : Int32))), .val (.double e0d), .second, .val (.double e1d), .second, .val (.double e2d), .second, .val (.ref b3), .val (.int (0 : Int32)), .unset, .unset] [])
        refine go (T' := T25) (f' := (mkF m 93 #[.val (.int p0), .val (.int p1), .val (.int p2), .val (.int p3), .val (.int (1 : Int32)), .val (.int z2), .val (.int ((((p0).toUInt32 >>> ((2 : Int32) &&& 31).toUInt32).toInt32) &&& (3 : Int32))), .val (.int ((((p0).toUInt32 >>> ((4 : Int32) &&& 31).toUInt32).toInt32) &&& (1 : Int32))), .val (.double e0d), .second, .val (.double e1d), .second, .val (.double e2d), .second, .val (.ref b3), .val (.int (1 : Int32)), .unset, .unset] [])) (by intro t k; exact XS.iinc X25.here hx rfl (hb hby at_90) rfl (l' := #[.val (.int p0), .val (.int p1), .val (.int p2), .val (.int p3), .val (.int (1 : Int32)), .val (.int z2), .val (.int ((((p0).toUInt32 >>> ((2 : Int32) &&& 31).toUInt32).toInt32) &&& (3 : Int32))), .val (.int ((((p0).toUInt32 >>> ((4 : Int32) &&& 31).toUInt32).toInt32) &&& (1 : Int32))), .val (.double e0d), .second, .val (.double e1d), .second, .val (.double e2d), .second, .val (.ref b3), .val (.int (1 : Int32)), .unset, .unset]) rfl k) ?_
        refine go (T' := T25) (f' := (mkF m 95 #[.val (.int p0), .val (.int p1), .val (.int p2), .val (.int p3), .val (.int (1 : Int32)), .val (.int z2), .val (.int ((((p0).toUInt32 >>> ((2 : Int32) &&& 31).toUInt32).toInt32) &&& (3 : Int32))), .val (.int ((((p0).toUInt32 >>> ((4 : Int32) &&& 31).toUInt32).toInt32) &&& (1 : Int32))), .val (.double e0d), .second, .val (.double e1d), .second, .val (.double e2d), .second, .val (.ref b3), .val (.int (1 : Int32)), .unset, .unset] [(.int z2)])) (by intro t k; exact XS.iload X25.here hx rfl (hb hby at_93) rfl k) ?_
        rcases (own_01 hz2 : z2 = (0 : Int32) ∨ z2 = (1 : Int32)) with ez | ez
        · subst ez
          show Run _ _ _ _ _ _ _ T25 (mkF m 95 #[.val (.int p0), .val (.int p1), .val (.int p2), .val (.int p3), .val (.int (1 : Int32)), .val (.int (0 : Int32)), .val (.int ((((p0).toUInt32 >>> ((2 : Int32) &&& 31).toUInt32).toInt32) &&& (3 : Int32))), .val (.int ((((p0).toUInt32 >>> ((4 : Int32) &&& 31).toUInt32).toInt32) &&& (1 : Int32))), .val (.double e0d), .second, .val (.double e1d), .second, .val (.double e2d), .second, .val (.ref b3), .val (.int (1 : Int32)), .unset, .unset] [(.int (0 : Int32))])
          refine go (T' := T25) (f' := (mkF m 109 #[.val (.int p0), .val (.int p1), .val (.int p2), .val (.int p3), .val (.int (1 : Int32)), .val (.int (0 : Int32)), .val (.int ((((p0).toUInt32 >>> ((2 : Int32) &&& 31).toUInt32).toInt32) &&& (3 : Int32))), .val (.int ((((p0).toUInt32 >>> ((4 : Int32) &&& 31).toUInt32).toInt32) &&& (1 : Int32))), .val (.double e0d), .second, .val (.double e1d), .second, .val (.double e2d), .second, .val (.ref b3), .val (.int (1 : Int32)), .unset, .unset] [])) (by intro t k; exact XS.ifYes X25.here hx rfl (pc0 := 95) (pc' := 109) rfl (hb hby at_95) rfl ((if0 _ _).trans (teq (rfl : (0 : Int32) = (0 : Int32))).1) (by decide) (by decide) k) ?_
          refine go (T' := T25) (f' := (mkF m 111 #[.val (.int p0), .val (.int p1), .val (.int p2), .val (.int p3), .val (.int (1 : Int32)), .val (.int (0 : Int32)), .val (.int ((((p0).toUInt32 >>> ((2 : Int32) &&& 31).toUInt32).toInt32) &&& (3 : Int32))), .val (.int ((((p0).toUInt32 >>> ((4 : Int32) &&& 31).toUInt32).toInt32) &&& (1 : Int32))), .val (.double e0d), .second, .val (.double e1d), .second, .val (.double e2d), .second, .val (.ref b3), .val (.int (1 : Int32)), .unset, .unset] [(.int ((((p0).toUInt32 >>> ((2 : Int32) &&& 31).toUInt32).toInt32) &&& (3 : Int32)))])) (by intro t k; exact XS.iload X25.here hx rfl (hb hby at_109) rfl k) ?_
          refine go (T' := T25) (f' := (mkF m 113 #[.val (.int p0), .val (.int p1), .val (.int p2), .val (.int p3), .val (.int (1 : Int32)), .val (.int (0 : Int32)), .val (.int ((((p0).toUInt32 >>> ((2 : Int32) &&& 31).toUInt32).toInt32) &&& (3 : Int32))), .val (.int ((((p0).toUInt32 >>> ((4 : Int32) &&& 31).toUInt32).toInt32) &&& (1 : Int32))), .val (.double e0d), .second, .val (.double e1d), .second, .val (.double e2d), .second, .val (.ref b3), .val (.int (1 : Int32)), .unset, .unset] [(.int (1 : Int32)), (.int ((((p0).toUInt32 >>> ((2 : Int32) &&& 31).toUInt32).toInt32) &&& (3 : Int32)))])) (by intro t k; exact XS.iload X25.here hx rfl (hb hby at_111) rfl k) ?_
          obtain ⟨_, _, ⟨T26, Lz26, kz26, nz26⟩, -, X26, ⟨Lc26, hQ26, lz26, yz26, zz26⟩, st26⟩ := Jvm.LawKit.callS X25 hx (y := (⟨"java/lang/Math", "min", "(II)I"⟩ : MethodName)) hown (mvT hZ (tw hw 21 rfl)) (mvT hZ (tw hw 22 rfl)) (mvT hZ (tw hw 23 rfl)) (mvT hZ (tw hw 24 rfl)) (by decide) (backOf (W := 0) (rm4 l Z aw hw [] ((((p0).toUInt32 >>> ((2 : Int32) &&& 31).toUInt32).toInt32) &&& (3 : Int32)) (1 : Int32)  T25.heap n0 Z25 ) hZ (tw hw 24 rfl) (tw hw 23 rfl) (by decide) (by decide)) (g := (mkF m 113 #[.val (.int p0), .val (.int p1), .val (.int p2), .val (.int p3), .val (.int (1 : Int32)), .val (.int (0 : Int32)), .val (.int ((((p0).toUInt32 >>> ((2 : Int32) &&& 31).toUInt32).toInt32) &&& (3 : Int32))), .val (.int ((((p0).toUInt32 >>> ((4 : Int32) &&& 31).toUInt32).toInt32) &&& (1 : Int32))), .val (.double e0d), .second, .val (.double e1d), .second, .val (.double e2d), .second, .val (.ref b3), .val (.int (1 : Int32)), .unset, .unset] [(.int (1 : Int32)), (.int ((((p0).toUInt32 >>> ((2 : Int32) &&& 31).toUInt32).toInt32) &&& (3 : Int32)))])) rfl (by rw [hml]; rfl) (argsL := [(.int ((((p0).toUInt32 >>> ((2 : Int32) &&& 31).toUInt32).toInt32) &&& (3 : Int32))), (.int (1 : Int32))]) (rest := []) (lenOf pd_28II29I rfl) rfl (by show 2 * 0 + _ ≤ _; exact Nat.le_of_eq rfl) (hb hby at_113) (fun _ _ => ⟨rfl, rfl, (by decide : 4 + 0 ≤ _), (by decide : 11 + 0 ≤ _)⟩)
          dsimp only [Pt.U, Pt.locs, Pt.cells, Pt.slots] at X26 lz26 yz26 zz26 st26 hQ26
          subst lz26 yz26 zz26
          obtain ⟨rfl, N26q, e26⟩ := hQ26
          have N26 := Fr.app N25 N26q
          refine go st26 ?_
          obtain ⟨z27, hz27⟩ : ∃ z : Int32, z = (own_min ((((p0).toUInt32 >>> ((2 : Int32) &&& 31).toUInt32).toInt32) &&& (3 : Int32)) (1 : Int32)) := ⟨_, rfl⟩
          rw [← hz27]
          rcases (own_p1 hz27 : z27 = (0 : Int32) ∨ z27 = (1 : Int32)) with ez | ez
          · subst ez
            show Run _ _ _ _ _ _ _ T26 (mkF m 116 #[.val (.int p0), .val (.int p1), .val (.int p2), .val (.int p3), .val (.int (1 : Int32)), .val (.int (0 : Int32)), .val (.int ((((p0).toUInt32 >>> ((2 : Int32) &&& 31).toUInt32).toInt32) &&& (3 : Int32))), .val (.int ((((p0).toUInt32 >>> ((4 : Int32) &&& 31).toUInt32).toInt32) &&& (1 : Int32))), .val (.double e0d), .second, .val (.double e1d), .second, .val (.double e2d), .second, .val (.ref b3), .val (.int (1 : Int32)), .unset, .unset] [(.int (0 : Int32))])
            refine go (T' := T26) (f' := (mkF m 118 #[.val (.int p0), .val (.int p1), .val (.int p2), .val (.int p3), .val (.int (1 : Int32)), .val (.int (0 : Int32)), .val (.int ((((p0).toUInt32 >>> ((2 : Int32) &&& 31).toUInt32).toInt32) &&& (3 : Int32))), .val (.int ((((p0).toUInt32 >>> ((4 : Int32) &&& 31).toUInt32).toInt32) &&& (1 : Int32))), .val (.double e0d), .second, .val (.double e1d), .second, .val (.double e2d), .second, .val (.ref b3), .val (.int (1 : Int32)), .val (.int (0 : Int32)), .unset] [])) (by intro t k; exact XS.istore X26.here hx rfl (hb hby at_116) rfl (l' := #[.val (.int p0), .val (.int p1), .val (.int p2), .val (.int p3), .val (.int (1 : Int32)), .val (.int (0 : Int32)), .val (.int ((((p0).toUInt32 >>> ((2 : Int32) &&& 31).toUInt32).toInt32) &&& (3 : Int32))), .val (.int ((((p0).toUInt32 >>> ((4 : Int32) &&& 31).toUInt32).toInt32) &&& (1 : Int32))), .val (.double e0d), .second, .val (.double e1d), .second, .val (.double e2d), .second, .val (.ref b3), .val (.int (1 : Int32)), .val (.int (0 : Int32)), .unset]) rfl k) ?_
            refine go (T' := T26) (f' := (mkF m 120 #[.val (.int p0), .val (.int p1), .val (.int p2), .val (.int p3), .val (.int (1 : Int32)), .val (.int (0 : Int32)), .val (.int ((((p0).toUInt32 >>> ((2 : Int32) &&& 31).toUInt32).toInt32) &&& (3 : Int32))), .val (.int ((((p0).toUInt32 >>> ((4 : Int32) &&& 31).toUInt32).toInt32) &&& (1 : Int32))), .val (.double e0d), .second, .val (.double e1d), .second, .val (.double e2d), .second, .val (.ref b3), .val (.int (1 : Int32)), .val (.int (0 : Int32)), .unset] [(.int (0 : Int32))])) (by intro t k; exact XS.iload X26.here hx rfl (hb hby at_118) rfl k) ?_
            refine go (T' := T26) (f' := (mkF m 121 #[.val (.int p0), .val (.int p1), .val (.int p2), .val (.int p3), .val (.int (1 : Int32)), .val (.int (0 : Int32)), .val (.int ((((p0).toUInt32 >>> ((2 : Int32) &&& 31).toUInt32).toInt32) &&& (3 : Int32))), .val (.int ((((p0).toUInt32 >>> ((4 : Int32) &&& 31).toUInt32).toInt32) &&& (1 : Int32))), .val (.double e0d), .second, .val (.double e1d), .second, .val (.double e2d), .second, .val (.ref b3), .val (.int (1 : Int32)), .val (.int (0 : Int32)), .unset] [(.int (1 : Int32)), (.int (0 : Int32))])) (by intro t k; exact XS.iconst X26.here hx rfl (hb hby at_120) k) ?_
            refine go (T' := T26) (f' := (mkF m 130 #[.val (.int p0), .val (.int p1), .val (.int p2), .val (.int p3), .val (.int (1 : Int32)), .val (.int (0 : Int32)), .val (.int ((((p0).toUInt32 >>> ((2 : Int32) &&& 31).toUInt32).toInt32) &&& (3 : Int32))), .val (.int ((((p0).toUInt32 >>> ((4 : Int32) &&& 31).toUInt32).toInt32) &&& (1 : Int32))), .val (.double e0d), .second, .val (.double e1d), .second, .val (.double e2d), .second, .val (.ref b3), .val (.int (1 : Int32)), .val (.int (0 : Int32)), .unset] [])) (by intro t k; exact XS.icmpYes X26.here hx rfl (pc0 := 121) (pc' := 130) rfl (hb hby at_121) rfl (tlt (by decide : (0 : Int32) < (1 : Int32))).1 (by decide) (by decide) k) ?_
            refine go (T' := T26) (f' := (mkF m 132 #[.val (.int p0), .val (.int p1), .val (.int p2), .val (.int p3), .val (.int (1 : Int32)), .val (.int (0 : Int32)), .val (.int ((((p0).toUInt32 >>> ((2 : Int32) &&& 31).toUInt32).toInt32) &&& (3 : Int32))), .val (.int ((((p0).toUInt32 >>> ((4 : Int32) &&& 31).toUInt32).toInt32) &&& (1 : Int32))), .val (.double e0d), .second, .val (.double e1d), .second, .val (.double e2d), .second, .val (.ref b3), .val (.int (1 : Int32)), .val (.int (0 : Int32)), .unset] [(.int (0 : Int32))])) (by intro t k; exact XS.iload X26.here hx rfl (hb hby at_130) rfl k) ?_
            refine go (T' := T26) (f' := (mkF m 133 #[.val (.int p0), .val (.int p1), .val (.int p2), .val (.int p3), .val (.int (1 : Int32)), .val (.int (0 : Int32)), .val (.int ((((p0).toUInt32 >>> ((2 : Int32) &&& 31).toUInt32).toInt32) &&& (3 : Int32))), .val (.int ((((p0).toUInt32 >>> ((4 : Int32) &&& 31).toUInt32).toInt32) &&& (1 : Int32))), .val (.double e0d), .second, .val (.double e1d), .second, .val (.double e2d), .second, .val (.ref b3), .val (.int (1 : Int32)), .val (.int (0 : Int32)), .unset] [(.int (2 : Int32)), (.int (0 : Int32))])) (by intro t k; exact XS.iconst X26.here hx rfl (hb hby at_132) k) ?_
            refine go (T' := T26) (f' := (mkF m 142 #[.val (.int p0), .val (.int p1), .val (.int p2), .val (.int p3), .val (.int (1 : Int32)), .val (.int (0 : Int32)), .val (.int ((((p0).toUInt32 >>> ((2 : Int32) &&& 31).toUInt32).toInt32) &&& (3 : Int32))), .val (.int ((((p0).toUInt32 >>> ((4 : Int32) &&& 31).toUInt32).toInt32) &&& (1 : Int32))), .val (.double e0d), .second, .val (.double e1d), .second, .val (.double e2d), .second, .val (.ref b3), .val (.int (1 : Int32)), .val (.int (0 : Int32)), .unset] [])) (by intro t k; exact XS.icmpYes X26.here hx rfl (pc0 := 133) (pc' := 142) rfl (hb hby at_133) rfl (tlt (by decide : (0 : Int32) < (2 : Int32))).1 (by decide) (by decide) k) ?_
            refine go (T' := T26) (f' := (mkF m 144 #[.val (.int p0), .val (.int p1), .val (.int p2), .val (.int p3), .val (.int (1 : Int32)), .val (.int (0 : Int32)), .val (.int ((((p0).toUInt32 >>> ((2 : Int32) &&& 31).toUInt32).toInt32) &&& (3 : Int32))), .val (.int ((((p0).toUInt32 >>> ((4 : Int32) &&& 31).toUInt32).toInt32) &&& (1 : Int32))), .val (.double e0d), .second, .val (.double e1d), .second, .val (.double e2d), .second, .val (.ref b3), .val (.int (1 : Int32)), .val (.int (0 : Int32)), .unset] [(.ref b3)])) (by intro t k; exact XS.aload X26.here hx rfl (hb hby at_142) rfl rfl k) ?_
            obtain ⟨cq28, kq28, q28a, q28b, q28c⟩ := isOf hZ e26 E25
            obtain ⟨_, _, ⟨T28, Lz28, kz28, nz28⟩, -, X28, ⟨Lc28, hQ28, lz28, yz28, zz28⟩, st28⟩ := X26.virtualBack hx (y := mclear) (z := mclear) hown (mvT hZ (tw hw 25 rfl)) (mvT hZ (tw hw 26 rfl)) (notFace_of_selects (args := #[]) (mvT hZ (tw hw 28 rfl))) (mvT hZ (tw hw 28 rfl)) (mvT hZ (tw hw 27 rfl)) (by decide) (backOf (W := 0) (rm5t25 l Z aw hw [] b3 bh bd bp e0d (0 : UInt64)  T25.heap n0 Z25 ⟨E25, Fh25, Fd25, Fp25, Fs25, Ft25, Ah25, Ad25, Ap25, g025, gh25, gd25, gp25, n0h25, n0d25, n0p25, nhd25, nhp25, ndp25⟩) hZ (tw hw 29 rfl) (tw hw 2 rfl) (by decide) (by decide)) q28a q28c (g := (mkF m 144 #[.val (.int p0), .val (.int p1), .val (.int p2), .val (.int p3), .val (.int (1 : Int32)), .val (.int (0 : Int32)), .val (.int ((((p0).toUInt32 >>> ((2 : Int32) &&& 31).toUInt32).toInt32) &&& (3 : Int32))), .val (.int ((((p0).toUInt32 >>> ((4 : Int32) &&& 31).toUInt32).toInt32) &&& (1 : Int32))), .val (.double e0d), .second, .val (.double e1d), .second, .val (.double e2d), .second, .val (.ref b3), .val (.int (1 : Int32)), .val (.int (0 : Int32)), .unset] [(.ref b3)])) rfl (by rw [hml]; rfl) (Steps.refl _) (argsL := []) (rest := []) (lenOf pd_2829V rfl) rfl (by show 2 * 0 + _ ≤ _; exact Nat.le_of_eq rfl) (hb hby at_144) (fun _ _ => ⟨rfl, e26, (by decide : 4 + 0 ≤ _), (by decide : 11 + 0 ≤ _)⟩)
            dsimp only [Pt.U, Pt.locs, Pt.cells, Pt.slots] at X28 lz28 yz28 zz28 st28 hQ28
            subst lz28 yz28 zz28
            obtain ⟨rfl, N28q, K28, hD28⟩ := hQ28
            have E28_b3 := Exa.keep E25 K28
            have Z28 : n0 ≤ T28.heap.size := Nat.le_trans Z25 K28.1
            obtain ⟨E28, Fh28, Fd28, Fp28, Fs28, Ft28, Ah28, Ad28, Ap28, g028, gh28, gd28, gp28, n0h28, n0d28, n0p28, nhd28, nhp28, ndp28⟩ := hD28
            have N28 := Fr.app N26 N28q
            refine go (fun _ k => st28.trans k) ?_
            show Run _ _ _ _ _ _ _ T28 (mkF m 147 #[.val (.int p0), .val (.int p1), .val (.int p2), .val (.int p3), .val (.int (1 : Int32)), .val (.int (0 : Int32)), .val (.int ((((p0).toUInt32 >>> ((2 : Int32) &&& 31).toUInt32).toInt32) &&& (3 : Int32))), .val (.int ((((p0).toUInt32 >>> ((4 : Int32) &&& 31).toUInt32).toInt32) &&& (1 : Int32))), .val (.double e0d), .second, .val (.double e1d), .second, .val (.double e2d), .second, .val (.ref b3), .val (.int (1 : Int32)), .val (.int (0 : Int32)), .unset] [])
            exact JC (0 : Int32) (0 : Int32) e0d (0 : UInt64) (.val (.int (1 : Int32))) (.val (.int (0 : Int32))) (.val (.int ((((p0).toUInt32 >>> ((2 : Int32) &&& 31).toUInt32).toInt32) &&& (3 : Int32)))) (.val (.int (1 : Int32))) (.val (.int (0 : Int32))) T28 T28.heap _ X28 rfl N28 Z28 ⟨E28, Fh28, Fd28, Fp28, Fs28, Ft28, Ah28, Ad28, Ap28, g028, gh28, gd28, gp28, n0h28, n0d28, n0p28, nhd28, nhp28, ndp28⟩
          · subst ez
            show Run _ _ _ _ _ _ _ T26 (mkF m 116 #[.val (.int p0), .val (.int p1), .val (.int p2), .val (.int p3), .val (.int (1 : Int32)), .val (.int (0 : Int32)), .val (.int ((((p0).toUInt32 >>> ((2 : Int32) &&& 31).toUInt32).toInt32) &&& (3 : Int32))), .val (.int ((((p0).toUInt32 >>> ((4 : Int32) &&& 31).toUInt32).toInt32) &&& (1 : Int32))), .val (.double e0d), .second, .val (.double e1d), .second, .val (.double e2d), .second, .val (.ref b3), .val (.int (1 : Int32)), .unset, .unset] [(.int (1 : Int32))])
            refine go (T' := T26) (f' := (mkF m 118 #[.val (.int p0), .val (.int p1), .val (.int p2), .val (.int p3), .val (.int (1 : Int32)), .val (.int (0 : Int32)), .val (.int ((((p0).toUInt32 >>> ((2 : Int32) &&& 31).toUInt32).toInt32) &&& (3 : Int32))), .val (.int ((((p0).toUInt32 >>> ((4 : Int32) &&& 31).toUInt32).toInt32) &&& (1 : Int32))), .val (.double e0d), .second, .val (.double e1d), .second, .val (.double e2d), .second, .val (.ref b3), .val (.int (1 : Int32)), .val (.int (1 : Int32)), .unset] [])) (by intro t k; exact XS.istore X26.here hx rfl (hb hby at_116) rfl (l' := #[.val (.int p0), .val (.int p1), .val (.int p2), .val (.int p3), .val (.int (1 : Int32)), .val (.int (0 : Int32)), .val (.int ((((p0).toUInt32 >>> ((2 : Int32) &&& 31).toUInt32).toInt32) &&& (3 : Int32))), .val (.int ((((p0).toUInt32 >>> ((4 : Int32) &&& 31).toUInt32).toInt32) &&& (1 : Int32))), .val (.double e0d), .second, .val (.double e1d), .second, .val (.double e2d), .second, .val (.ref b3), .val (.int (1 : Int32)), .val (.int (1 : Int32)), .unset]) rfl k) ?_
            refine go (T' := T26) (f' := (mkF m 120 #[.val (.int p0), .val (.int p1), .val (.int p2), .val (.int p3), .val (.int (1 : Int32)), .val (.int (0 : Int32)), .val (.int ((((p0).toUInt32 >>> ((2 : Int32) &&& 31).toUInt32).toInt32) &&& (3 : Int32))), .val (.int ((((p0).toUInt32 >>> ((4 : Int32) &&& 31).toUInt32).toInt32) &&& (1 : Int32))), .val (.double e0d), .second, .val (.double e1d), .second, .val (.double e2d), .second, .val (.ref b3), .val (.int (1 : Int32)), .val (.int (1 : Int32)), .unset] [(.int (1 : Int32))])) (by intro t k; exact XS.iload X26.here hx rfl (hb hby at_118) rfl k) ?_
            refine go (T' := T26) (f' := (mkF m 121 #[.val (.int p0), .val (.int p1), .val (.int p2), .val (.int p3), .val (.int (1 : Int32)), .val (.int (0 : Int32)), .val (.int ((((p0).toUInt32 >>> ((2 : Int32) &&& 31).toUInt32).toInt32) &&& (3 : Int32))), .val (.int ((((p0).toUInt32 >>> ((4 : Int32) &&& 31).toUInt32).toInt32) &&& (1 : Int32))), .val (.double e0d), .second, .val (.double e1d), .second, .val (.double e2d), .second, .val (.ref b3), .val (.int (1 : Int32)), .val (.int (1 : Int32)), .unset] [(.int (1 : Int32)), (.int (1 : Int32))])) (by intro t k; exact XS.iconst X26.here hx rfl (hb hby at_120) k) ?_
            refine go (T' := T26) (f' := (mkF m 124 #[.val (.int p0), .val (.int p1), .val (.int p2), .val (.int p3), .val (.int (1 : Int32)), .val (.int (0 : Int32)), .val (.int ((((p0).toUInt32 >>> ((2 : Int32) &&& 31).toUInt32).toInt32) &&& (3 : Int32))), .val (.int ((((p0).toUInt32 >>> ((4 : Int32) &&& 31).toUInt32).toInt32) &&& (1 : Int32))), .val (.double e0d), .second, .val (.double e1d), .second, .val (.double e2d), .second, .val (.ref b3), .val (.int (1 : Int32)), .val (.int (1 : Int32)), .unset] [])) (by intro t k; exact XS.icmpNo X26.here hx rfl (hb hby at_121) rfl (flt (by decide : ¬ ((1 : Int32) < (1 : Int32)))).1 k) ?_
            refine go (T' := T26) (f' := (mkF m 126 #[.val (.int p0), .val (.int p1), .val (.int p2), .val (.int p3), .val (.int (1 : Int32)), .val (.int (0 : Int32)), .val (.int ((((p0).toUInt32 >>> ((2 : Int32) &&& 31).toUInt32).toInt32) &&& (3 : Int32))), .val (.int ((((p0).toUInt32 >>> ((4 : Int32) &&& 31).toUInt32).toInt32) &&& (1 : Int32))), .val (.double e0d), .second, .val (.double e1d), .second, .val (.double e2d), .second, .val (.ref b3), .val (.int (1 : Int32)), .val (.int (1 : Int32)), .unset] [(.ref b3)])) (by intro t k; exact XS.aload X26.here hx rfl (hb hby at_124) rfl rfl k) ?_
            obtain ⟨cq29, kq29, q29a, q29b, q29c⟩ := isOf hZ e26 E25
            obtain ⟨_, _, ⟨T29, Lz29, kz29, nz29⟩, -, X29, ⟨Lc29, hQ29, lz29, yz29, zz29⟩, st29⟩ := X26.virtualBack hx (y := mpoll) (z := mpoll) hown (mvT hZ (tw hw 57 rfl)) (mvT hZ (tw hw 58 rfl)) (notFace_of_selects (args := #[]) (mvT hZ (tw hw 60 rfl))) (mvT hZ (tw hw 60 rfl)) (mvT hZ (tw hw 59 rfl)) (by decide) (backOf (W := 0) (rm11t26 l Z aw hw [] b3 bh bd bp e0d (0 : UInt64)  T25.heap n0 Z25 ⟨E25, Fh25, Fd25, Fp25, Fs25, Ft25, Ah25, Ad25, Ap25, g025, gh25, gd25, gp25, n0h25, n0d25, n0p25, nhd25, nhp25, ndp25⟩) hZ (tw hw 61 rfl) (tw hw 2 rfl) (by decide) (by decide)) q29a q29c (g := (mkF m 126 #[.val (.int p0), .val (.int p1), .val (.int p2), .val (.int p3), .val (.int (1 : Int32)), .val (.int (0 : Int32)), .val (.int ((((p0).toUInt32 >>> ((2 : Int32) &&& 31).toUInt32).toInt32) &&& (3 : Int32))), .val (.int ((((p0).toUInt32 >>> ((4 : Int32) &&& 31).toUInt32).toInt32) &&& (1 : Int32))), .val (.double e0d), .second, .val (.double e1d), .second, .val (.double e2d), .second, .val (.ref b3), .val (.int (1 : Int32)), .val (.int (1 : Int32)), .unset] [(.ref b3)])) rfl (by rw [hml]; rfl) (Steps.refl _) (argsL := []) (rest := []) (lenOf pd_2829I rfl) rfl (by show 2 * 0 + _ ≤ _; exact Nat.le_of_eq rfl) (hb hby at_126) (fun _ _ => ⟨rfl, e26, (by decide : 4 + 0 ≤ _), (by decide : 11 + 0 ≤ _)⟩)
            dsimp only [Pt.U, Pt.locs, Pt.cells, Pt.slots] at X29 lz29 yz29 zz29 st29 hQ29
            subst lz29 yz29 zz29
            obtain ⟨rfl, N29q, K29, hD29⟩ := hQ29
            have E29_b3 := Exa.keep E25 K29
            have Z29 : n0 ≤ T29.heap.size := Nat.le_trans Z25 K29.1
            obtain ⟨E29, Fh29, Fd29, Fp29, Fs29, Ft29, Ah29, Ad29, Ap29, g029, gh29, gd29, gp29, n0h29, n0d29, n0p29, nhd29, nhp29, ndp29⟩ := hD29
            have N29 := Fr.app N26 N29q
            refine go (fun _ k => st29.trans k) ?_
            show Run _ _ _ _ _ _ _ T29 (mkF m 129 #[.val (.int p0), .val (.int p1), .val (.int p2), .val (.int p3), .val (.int (1 : Int32)), .val (.int (0 : Int32)), .val (.int ((((p0).toUInt32 >>> ((2 : Int32) &&& 31).toUInt32).toInt32) &&& (3 : Int32))), .val (.int ((((p0).toUInt32 >>> ((4 : Int32) &&& 31).toUInt32).toInt32) &&& (1 : Int32))), .val (.double e0d), .second, .val (.double e1d), .second, .val (.double e2d), .second, .val (.ref b3), .val (.int (1 : Int32)), .val (.int (1 : Int32)), .unset] [(.int (0 : Int32))])
            refine go (T' := T29) (f' := (mkF m 130 #[.val (.int p0), .val (.int p1), .val (.int p2), .val (.int p3), .val (.int (1 : Int32)), .val (.int (0 : Int32)), .val (.int ((((p0).toUInt32 >>> ((2 : Int32) &&& 31).toUInt32).toInt32) &&& (3 : Int32))), .val (.int ((((p0).toUInt32 >>> ((4 : Int32) &&& 31).toUInt32).toInt32) &&& (1 : Int32))), .val (.double e0d), .second, .val (.double e1d), .second, .val (.double e2d), .second, .val (.ref b3), .val (.int (1 : Int32)), .val (.int (1 : Int32)), .unset] [])) (by intro t k; exact XS.pop X29.here hx rfl (hb hby at_129) rfl rfl k) ?_
            refine go (T' := T29) (f' := (mkF m 132 #[.val (.int p0), .val (.int p1), .val (.int p2), .val (.int p3), .val (.int (1 : Int32)), .val (.int (0 : Int32)), .val (.int ((((p0).toUInt32 >>> ((2 : Int32) &&& 31).toUInt32).toInt32) &&& (3 : Int32))), .val (.int ((((p0).toUInt32 >>> ((4 : Int32) &&& 31).toUInt32).toInt32) &&& (1 : Int32))), .val (.double e0d), .second, .val (.double e1d), .second, .val (.double e2d), .second, .val (.ref b3), .val (.int (1 : Int32)), .val (.int (1 : Int32)), .unset] [(.int (1 : Int32))])) (by intro t k; exact XS.iload X29.here hx rfl (hb hby at_130) rfl k) ?_
            refine go (T' := T29) (f' := (mkF m 133 #[.val (.int p0), .val (.int p1), .val (.int p2), .val (.int p3), .val (.int (1 : Int32)), .val (.int (0 : Int32)), .val (.int ((((p0).toUInt32 >>> ((2 : Int32) &&& 31).toUInt32).toInt32) &&& (3 : Int32))), .val (.int ((((p0).toUInt32 >>> ((4 : Int32) &&& 31).toUInt32).toInt32) &&& (1 : Int32))), .val (.double e0d), .second, .val (.double e1d), .second, .val (.double e2d), .second, .val (.ref b3), .val (.int (1 : Int32)), .val (.int (1 : Int32)), .unset] [(.int (2 : Int32)), (.int (1 : Int32))])) (by intro t k; exact XS.iconst X29.here hx rfl (hb hby at_132) k) ?_
            refine go (T' := T29) (f' := (mkF m 142 #[.val (.int p0), .val (.int p1), .val (.int p2), .val (.int p3), .val (.int (1 : Int32)), .val (.int (0 : Int32)), .val (.int ((((p0).toUInt32 >>> ((2 : Int32) &&& 31).toUInt32).toInt32) &&& (3 : Int32))), .val (.int ((((p0).toUInt32 >>> ((4 : Int32) &&& 31).toUInt32).toInt32) &&& (1 : Int32))), .val (.double e0d), .second, .val (.double e1d), .second, .val (.double e2d), .second, .val (.ref b3), .val (.int (1 : Int32)), .val (.int (1 : Int32)), .unset] [])) (by intro t k; exact XS.icmpYes X29.here hx rfl (pc0 := 133) (pc' := 142) rfl (hb hby at_133) rfl (tlt (by decide : (1 : Int32) < (2 : Int32))).1 (by decide) (by decide) k) ?_
            refine go (T' := T29) (f' := (mkF m 144 #[.val (.int p0), .val (.int p1), .val (.int p2), .val (.int p3), .val (.int (1 : Int32)), .val (.int (0 : Int32)), .val (.int ((((p0).toUInt32 >>> ((2 : Int32) &&& 31).toUInt32).toInt32) &&& (3 : Int32))), .val (.int ((((p0).toUInt32 >>> ((4 : Int32) &&& 31).toUInt32).toInt32) &&& (1 : Int32))), .val (.double e0d), .second, .val (.double e1d), .second, .val (.double e2d), .second, .val (.ref b3), .val (.int (1 : Int32)), .val (.int (1 : Int32)), .unset] [(.ref b3)])) (by intro t k; exact XS.aload X29.here hx rfl (hb hby at_142) rfl rfl k) ?_
            obtain ⟨cq30, kq30, q30a, q30b, q30c⟩ := isOf hZ rfl E29
            obtain ⟨_, _, ⟨T30, Lz30, kz30, nz30⟩, -, X30, ⟨Lc30, hQ30, lz30, yz30, zz30⟩, st30⟩ := X29.virtualBack hx (y := mclear) (z := mclear) hown (mvT hZ (tw hw 25 rfl)) (mvT hZ (tw hw 26 rfl)) (notFace_of_selects (args := #[]) (mvT hZ (tw hw 28 rfl))) (mvT hZ (tw hw 28 rfl)) (mvT hZ (tw hw 27 rfl)) (by decide) (backOf (W := 0) (rm5t27 l Z aw hw [] b3 bh bd bp e0d (0 : UInt64)  T29.heap n0 Z29 ⟨E29, Fh29, Fd29, Fp29, Fs29, Ft29, Ah29, Ad29, Ap29, g029, gh29, gd29, gp29, n0h29, n0d29, n0p29, nhd29, nhp29, ndp29⟩) hZ (tw hw 29 rfl) (tw hw 2 rfl) (by decide) (by decide)) q30a q30c (g := (mkF m 144 #[.val (.int p0), .val (.int p1), .val (.int p2), .val (.int p3), .val (.int (1 : Int32)), .val (.int (0 : Int32)), .val (.int ((((p0).toUInt32 >>> ((2 : Int32) &&& 31).toUInt32).toInt32) &&& (3 : Int32))), .val (.int ((((p0).toUInt32 >>> ((4 : Int32) &&& 31).toUInt32).toInt32) &&& (1 : Int32))), .val (.double e0d), .second, .val (.double e1d), .second, .val (.double e2d), .second, .val (.ref b3), .val (.int (1 : Int32)), .val (.int (1 : Int32)), .unset] [(.ref b3)])) rfl (by rw [hml]; rfl) (Steps.refl _) (argsL := []) (rest := []) (lenOf pd_2829V rfl) rfl (by show 2 * 0 + _ ≤ _; exact Nat.le_of_eq rfl) (hb hby at_144) (fun _ _ => ⟨rfl, rfl, (by decide : 4 + 0 ≤ _), (by decide : 11 + 0 ≤ _)⟩)
            dsimp only [Pt.U, Pt.locs, Pt.cells, Pt.slots] at X30 lz30 yz30 zz30 st30 hQ30
            subst lz30 yz30 zz30
            obtain ⟨rfl, N30q, K30, hD30⟩ := hQ30
            have E30_b3 := Exa.keep E29 K30
            have Z30 : n0 ≤ T30.heap.size := Nat.le_trans Z29 K30.1
            obtain ⟨E30, Fh30, Fd30, Fp30, Fs30, Ft30, Ah30, Ad30, Ap30, g030, gh30, gd30, gp30, n0h30, n0d30, n0p30, nhd30, nhp30, ndp30⟩ := hD30
            have N30 := Fr.app N29 N30q
            refine go (fun _ k => st30.trans k) ?_
            show Run _ _ _ _ _ _ _ T30 (mkF m 147 #[.val (.int p0), .val (.int p1), .val (.int p2), .val (.int p3), .val (.int (1 : Int32)), .val (.int (0 : Int32)), .val (.int ((((p0).toUInt32 >>> ((2 : Int32) &&& 31).toUInt32).toInt32) &&& (3 : Int32))), .val (.int ((((p0).toUInt32 >>> ((4 : Int32) &&& 31).toUInt32).toInt32) &&& (1 : Int32))), .val (.double e0d), .second, .val (.double e1d), .second, .val (.double e2d), .second, .val (.ref b3), .val (.int (1 : Int32)), .val (.int (1 : Int32)), .unset] [])
            exact JC (0 : Int32) (0 : Int32) e0d (0 : UInt64) (.val (.int (1 : Int32))) (.val (.int (0 : Int32))) (.val (.int ((((p0).toUInt32 >>> ((2 : Int32) &&& 31).toUInt32).toInt32) &&& (3 : Int32)))) (.val (.int (1 : Int32))) (.val (.int (1 : Int32))) T30 T30.heap _ X30 rfl N30 Z30 ⟨E30, Fh30, Fd30, Fp30, Fs30, Ft30, Ah30, Ad30, Ap30, g030, gh30, gd30, gp30, n0h30, n0d30, n0p30, nhd30, nhp30, ndp30⟩
        · subst ez
          show Run _ _ _ _ _ _ _ T25 (mkF m 95 #[.val (.int p0), .val (.int p1), .val (.int p2), .val (.int p3), .val (.int (1 : Int32)), .val (.int (1 : Int32)), .val (.int ((((p0).toUInt32 >>> ((2 : Int32) &&& 31).toUInt32).toInt32) &&& (3 : Int32))), .val (.int ((((p0).toUInt32 >>> ((4 : Int32) &&& 31).toUInt32).toInt32) &&& (1 : Int32))), .val (.double e0d), .second, .val (.double e1d), .second, .val (.double e2d), .second, .val (.ref b3), .val (.int (1 : Int32)), .unset, .unset] [(.int (1 : Int32))])
          refine go (T' := T25) (f' := (mkF m 98 #[.val (.int p0), .val (.int p1), .val (.int p2), .val (.int p3), .val (.int (1 : Int32)), .val (.int (1 : Int32)), .val (.int ((((p0).toUInt32 >>> ((2 : Int32) &&& 31).toUInt32).toInt32) &&& (3 : Int32))), .val (.int ((((p0).toUInt32 >>> ((4 : Int32) &&& 31).toUInt32).toInt32) &&& (1 : Int32))), .val (.double e0d), .second, .val (.double e1d), .second, .val (.double e2d), .second, .val (.ref b3), .val (.int (1 : Int32)), .unset, .unset] [])) (by intro t k; exact XS.ifNo X25.here hx rfl (hb hby at_95) rfl ((if0 _ _).trans (feq (by decide : ¬ ((1 : Int32) = (0 : Int32)))).1) k) ?_
          refine go (T' := T25) (f' := (mkF m 100 #[.val (.int p0), .val (.int p1), .val (.int p2), .val (.int p3), .val (.int (1 : Int32)), .val (.int (1 : Int32)), .val (.int ((((p0).toUInt32 >>> ((2 : Int32) &&& 31).toUInt32).toInt32) &&& (3 : Int32))), .val (.int ((((p0).toUInt32 >>> ((4 : Int32) &&& 31).toUInt32).toInt32) &&& (1 : Int32))), .val (.double e0d), .second, .val (.double e1d), .second, .val (.double e2d), .second, .val (.ref b3), .val (.int (1 : Int32)), .unset, .unset] [(.ref b3)])) (by intro t k; exact XS.aload X25.here hx rfl (hb hby at_98) rfl rfl k) ?_
          refine go (T' := T25) (f' := (mkF m 101 #[.val (.int p0), .val (.int p1), .val (.int p2), .val (.int p3), .val (.int (1 : Int32)), .val (.int (1 : Int32)), .val (.int ((((p0).toUInt32 >>> ((2 : Int32) &&& 31).toUInt32).toInt32) &&& (3 : Int32))), .val (.int ((((p0).toUInt32 >>> ((4 : Int32) &&& 31).toUInt32).toInt32) &&& (1 : Int32))), .val (.double e0d), .second, .val (.double e1d), .second, .val (.double e2d), .second, .val (.ref b3), .val (.int (1 : Int32)), .unset, .unset] [(.int (1 : Int32)), (.ref b3)])) (by intro t k; exact XS.iconst X25.here hx rfl (hb hby at_100) k) ?_
          refine go (T' := T25) (f' := (mkF m 103 #[.val (.int p0), .val (.int p1), .val (.int p2), .val (.int p3), .val (.int (1 : Int32)), .val (.int (1 : Int32)), .val (.int ((((p0).toUInt32 >>> ((2 : Int32) &&& 31).toUInt32).toInt32) &&& (3 : Int32))), .val (.int ((((p0).toUInt32 >>> ((4 : Int32) &&& 31).toUInt32).toInt32) &&& (1 : Int32))), .val (.double e0d), .second, .val (.double e1d), .second, .val (.double e2d), .second, .val (.ref b3), .val (.int (1 : Int32)), .unset, .unset] [(.double e1d), (.int (1 : Int32)), (.ref b3)])) (by intro t k; exact XS.dload X25.here hx rfl (hb hby at_101) rfl k) ?_
          obtain ⟨cq31, kq31, q31a, q31b, q31c⟩ := isOf hZ rfl E25
          obtain ⟨_, _, ⟨T31, Lz31, kz31, nz31⟩, -, X31, ⟨Lc31, hQ31, lz31, yz31, zz31⟩, st31⟩ := X25.virtualBack hx (y := moffer) (z := moffer) hown (mvT hZ (tw hw 44 rfl)) (mvT hZ (tw hw 45 rfl)) (notFace_of_selects (args := #[]) (mvT hZ (tw hw 47 rfl))) (mvT hZ (tw hw 47 rfl)) (mvT hZ (tw hw 46 rfl)) (by decide) (backOf (W := 0) (rm8t28 l Z aw hw [] b3 e1d bh bd bp e0d (0 : UInt64)  T25.heap n0 Z25 ⟨E25, Fh25, Fd25, Fp25, Fs25, Ft25, Ah25, Ad25, Ap25, g025, gh25, gd25, gp25, n0h25, n0d25, n0p25, nhd25, nhp25, ndp25⟩) hZ (tw hw 48 rfl) (tw hw 2 rfl) (by decide) (by decide)) q31a q31c (g := (mkF m 103 #[.val (.int p0), .val (.int p1), .val (.int p2), .val (.int p3), .val (.int (1 : Int32)), .val (.int (1 : Int32)), .val (.int ((((p0).toUInt32 >>> ((2 : Int32) &&& 31).toUInt32).toInt32) &&& (3 : Int32))), .val (.int ((((p0).toUInt32 >>> ((4 : Int32) &&& 31).toUInt32).toInt32) &&& (1 : Int32))), .val (.double e0d), .second, .val (.double e1d), .second, .val (.double e2d), .second, .val (.ref b3), .val (.int (1 : Int32)), .unset, .unset] [(.double e1d), (.int (1 : Int32)), (.ref b3)])) rfl (by rw [hml]; rfl) (Steps.refl _) (argsL := [(.int (1 : Int32)), (.double e1d)]) (rest := []) (lenOf pd_28ID29V rfl) rfl (by show 2 * 0 + _ ≤ _; exact Nat.le_of_eq rfl) (hb hby at_103) (fun _ _ => ⟨rfl, rfl, (by decide : 4 + 0 ≤ _), (by decide : 11 + 0 ≤ _)⟩)
          dsimp only [Pt.U, Pt.locs, Pt.cells, Pt.slots] at X31 lz31 yz31 zz31 st31 hQ31
          subst lz31 yz31 zz31
          obtain ⟨rfl, N31q, K31, hD31⟩ := hQ31
          have E31_b3 := Exa.keep E25 K31
          have Z31 : n0 ≤ T31.heap.size := Nat.le_trans Z25 K31.1
          have N31 := Fr.app N25 N31q
          refine go (fun _ k => st31.trans k) ?_
          rcases hD31 with hD31 | hD31
          · obtain ⟨E31, Fh31, Fd31, Fp31, Fs31, Ft31, Ah31, Ad31, Ap31, g031, gh31, gd31, gp31, n0h31, n0d31, n0p31, nhd31, nhp31, ndp31⟩ := hD31
            show Run _ _ _ _ _ _ _ T31 (mkF m 106 #[.val (.int p0), .val (.int p1), .val (.int p2), .val (.int p3), .val (.int (1 : Int32)), .val (.int (1 : Int32)), .val (.int ((((p0).toUInt32 >>> ((2 : Int32) &&& 31).toUInt32).toInt32) &&& (3 : Int32))), .val (.int ((((p0).toUInt32 >>> ((4 : Int32) &&& 31).toUInt32).toInt32) &&& (1 : Int32))), .val (.double e0d), .second, .val (.double e1d), .second, .val (.double e2d), .second, .val (.ref b3), .val (.int (1 : Int32)), .unset, .unset] [])
            refine go (T' := T31) (f' := (mkF m 109 #[.val (.int p0), .val (.int p1), .val (.int p2), .val (.int p3), .val (.int (1 : Int32)), .val (.int (1 : Int32)), .val (.int ((((p0).toUInt32 >>> ((2 : Int32) &&& 31).toUInt32).toInt32) &&& (3 : Int32))), .val (.int ((((p0).toUInt32 >>> ((4 : Int32) &&& 31).toUInt32).toInt32) &&& (1 : Int32))), .val (.double e0d), .second, .val (.double e1d), .second, .val (.double e2d), .second, .val (.ref b3), .val (.int (2 : Int32)), .unset, .unset] [])) (by intro t k; exact XS.iinc X31.here hx rfl (hb hby at_106) rfl (l' := #[.val (.int p0), .val (.int p1), .val (.int p2), .val (.int p3), .val (.int (1 : Int32)), .val (.int (1 : Int32)), .val (.int ((((p0).toUInt32 >>> ((2 : Int32) &&& 31).toUInt32).toInt32) &&& (3 : Int32))), .val (.int ((((p0).toUInt32 >>> ((4 : Int32) &&& 31).toUInt32).toInt32) &&& (1 : Int32))), .val (.double e0d), .second, .val (.double e1d), .second, .val (.double e2d), .second, .val (.ref b3), .val (.int (2 : Int32)), .unset, .unset]) rfl k) ?_
            refine go (T' := T31) (f' := (mkF m 111 #[.val (.int p0), .val (.int p1), .val (.int p2), .val (.int p3), .val (.int (1 : Int32)), .val (.int (1 : Int32)), .val (.int ((((p0).toUInt32 >>> ((2 : Int32) &&& 31).toUInt32).toInt32) &&& (3 : Int32))), .val (.int ((((p0).toUInt32 >>> ((4 : Int32) &&& 31).toUInt32).toInt32) &&& (1 : Int32))), .val (.double e0d), .second, .val (.double e1d), .second, .val (.double e2d), .second, .val (.ref b3), .val (.int (2 : Int32)), .unset, .unset] [(.int ((((p0).toUInt32 >>> ((2 : Int32) &&& 31).toUInt32).toInt32) &&& (3 : Int32)))])) (by intro t k; exact XS.iload X31.here hx rfl (hb hby at_109) rfl k) ?_
            refine go (T' := T31) (f' := (mkF m 113 #[.val (.int p0), .val (.int p1), .val (.int p2), .val (.int p3), .val (.int (1 : Int32)), .val (.int (1 : Int32)), .val (.int ((((p0).toUInt32 >>> ((2 : Int32) &&& 31).toUInt32).toInt32) &&& (3 : Int32))), .val (.int ((((p0).toUInt32 >>> ((4 : Int32) &&& 31).toUInt32).toInt32) &&& (1 : Int32))), .val (.double e0d), .second, .val (.double e1d), .second, .val (.double e2d), .second, .val (.ref b3), .val (.int (2 : Int32)), .unset, .unset] [(.int (2 : Int32)), (.int ((((p0).toUInt32 >>> ((2 : Int32) &&& 31).toUInt32).toInt32) &&& (3 : Int32)))])) (by intro t k; exact XS.iload X31.here hx rfl (hb hby at_111) rfl k) ?_
            obtain ⟨_, _, ⟨T32, Lz32, kz32, nz32⟩, -, X32, ⟨Lc32, hQ32, lz32, yz32, zz32⟩, st32⟩ := Jvm.LawKit.callS X31 hx (y := (⟨"java/lang/Math", "min", "(II)I"⟩ : MethodName)) hown (mvT hZ (tw hw 21 rfl)) (mvT hZ (tw hw 22 rfl)) (mvT hZ (tw hw 23 rfl)) (mvT hZ (tw hw 24 rfl)) (by decide) (backOf (W := 0) (rm4 l Z aw hw [] ((((p0).toUInt32 >>> ((2 : Int32) &&& 31).toUInt32).toInt32) &&& (3 : Int32)) (2 : Int32)  T31.heap n0 Z31 ) hZ (tw hw 24 rfl) (tw hw 23 rfl) (by decide) (by decide)) (g := (mkF m 113 #[.val (.int p0), .val (.int p1), .val (.int p2), .val (.int p3), .val (.int (1 : Int32)), .val (.int (1 : Int32)), .val (.int ((((p0).toUInt32 >>> ((2 : Int32) &&& 31).toUInt32).toInt32) &&& (3 : Int32))), .val (.int ((((p0).toUInt32 >>> ((4 : Int32) &&& 31).toUInt32).toInt32) &&& (1 : Int32))), .val (.double e0d), .second, .val (.double e1d), .second, .val (.double e2d), .second, .val (.ref b3), .val (.int (2 : Int32)), .unset, .unset] [(.int (2 : Int32)), (.int ((((p0).toUInt32 >>> ((2 : Int32) &&& 31).toUInt32).toInt32) &&& (3 : Int32)))])) rfl (by rw [hml]; rfl) (argsL := [(.int ((((p0).toUInt32 >>> ((2 : Int32) &&& 31).toUInt32).toInt32) &&& (3 : Int32))), (.int (2 : Int32))]) (rest := []) (lenOf pd_28II29I rfl) rfl (by show 2 * 0 + _ ≤ _; exact Nat.le_of_eq rfl) (hb hby at_113) (fun _ _ => ⟨rfl, rfl, (by decide : 4 + 0 ≤ _), (by decide : 11 + 0 ≤ _)⟩)
            dsimp only [Pt.U, Pt.locs, Pt.cells, Pt.slots] at X32 lz32 yz32 zz32 st32 hQ32
            subst lz32 yz32 zz32
            obtain ⟨rfl, N32q, e32⟩ := hQ32
            have N32 := Fr.app N31 N32q
            refine go st32 ?_
            obtain ⟨z33, hz33⟩ : ∃ z : Int32, z = (own_min ((((p0).toUInt32 >>> ((2 : Int32) &&& 31).toUInt32).toInt32) &&& (3 : Int32)) (2 : Int32)) := ⟨_, rfl⟩
            rw [← hz33]
            rcases (own_p2 hz33 : z33 = (0 : Int32) ∨ z33 = (1 : Int32) ∨ z33 = (2 : Int32)) with ez | ez | ez
            · subst ez
              show Run _ _ _ _ _ _ _ T32 (mkF m 116 #[.val (.int p0), .val (.int p1), .val (.int p2), .val (.int p3), .val (.int (1 : Int32)), .val (.int (1 : Int32)), .val (.int ((((p0).toUInt32 >>> ((2 : Int32) &&& 31).toUInt32).toInt32) &&& (3 : Int32))), .val (.int ((((p0).toUInt32 >>> ((4 : Int32) &&& 31).toUInt32).toInt32) &&& (1 : Int32))), .val (.double e0d), .second, .val (.double e1d), .second, .val (.double e2d), .second, .val (.ref b3), .val (.int (2 : Int32)), .unset, .unset] [(.int (0 : Int32))])
              refine go (T' := T32) (f' := (mkF m 118 #[.val (.int p0), .val (.int p1), .val (.int p2), .val (.int p3), .val (.int (1 : Int32)), .val (.int (1 : Int32)), .val (.int ((((p0).toUInt32 >>> ((2 : Int32) &&& 31).toUInt32).toInt32) &&& (3 : Int32))), .val (.int ((((p0).toUInt32 >>> ((4 : Int32) &&& 31).toUInt32).toInt32) &&& (1 : Int32))), .val (.double e0d), .second, .val (.double e1d), .second, .val (.double e2d), .second, .val (.ref b3), .val (.int (2 : Int32)), .val (.int (0 : Int32)), .unset] [])) (by intro t k; exact XS.istore X32.here hx rfl (hb hby at_116) rfl (l' := #[.val (.int p0), .val (.int p1), .val (.int p2), .val (.int p3), .val (.int (1 : Int32)), .val (.int (1 : Int32)), .val (.int ((((p0).toUInt32 >>> ((2 : Int32) &&& 31).toUInt32).toInt32) &&& (3 : Int32))), .val (.int ((((p0).toUInt32 >>> ((4 : Int32) &&& 31).toUInt32).toInt32) &&& (1 : Int32))), .val (.double e0d), .second, .val (.double e1d), .second, .val (.double e2d), .second, .val (.ref b3), .val (.int (2 : Int32)), .val (.int (0 : Int32)), .unset]) rfl k) ?_
              refine go (T' := T32) (f' := (mkF m 120 #[.val (.int p0), .val (.int p1), .val (.int p2), .val (.int p3), .val (.int (1 : Int32)), .val (.int (1 : Int32)), .val (.int ((((p0).toUInt32 >>> ((2 : Int32) &&& 31).toUInt32).toInt32) &&& (3 : Int32))), .val (.int ((((p0).toUInt32 >>> ((4 : Int32) &&& 31).toUInt32).toInt32) &&& (1 : Int32))), .val (.double e0d), .second, .val (.double e1d), .second, .val (.double e2d), .second, .val (.ref b3), .val (.int (2 : Int32)), .val (.int (0 : Int32)), .unset] [(.int (0 : Int32))])) (by intro t k; exact XS.iload X32.here hx rfl (hb hby at_118) rfl k) ?_
              refine go (T' := T32) (f' := (mkF m 121 #[.val (.int p0), .val (.int p1), .val (.int p2), .val (.int p3), .val (.int (1 : Int32)), .val (.int (1 : Int32)), .val (.int ((((p0).toUInt32 >>> ((2 : Int32) &&& 31).toUInt32).toInt32) &&& (3 : Int32))), .val (.int ((((p0).toUInt32 >>> ((4 : Int32) &&& 31).toUInt32).toInt32) &&& (1 : Int32))), .val (.double e0d), .second, .val (.double e1d), .second, .val (.double e2d), .second, .val (.ref b3), .val (.int (2 : Int32)), .val (.int (0 : Int32)), .unset] [(.int (1 : Int32)), (.int (0 : Int32))])) (by intro t k; exact XS.iconst X32.here hx rfl (hb hby at_120) k) ?_
              refine go (T' := T32) (f' := (mkF m 130 #[.val (.int p0), .val (.int p1), .val (.int p2), .val (.int p3), .val (.int (1 : Int32)), .val (.int (1 : Int32)), .val (.int ((((p0).toUInt32 >>> ((2 : Int32) &&& 31).toUInt32).toInt32) &&& (3 : Int32))), .val (.int ((((p0).toUInt32 >>> ((4 : Int32) &&& 31).toUInt32).toInt32) &&& (1 : Int32))), .val (.double e0d), .second, .val (.double e1d), .second, .val (.double e2d), .second, .val (.ref b3), .val (.int (2 : Int32)), .val (.int (0 : Int32)), .unset] [])) (by intro t k; exact XS.icmpYes X32.here hx rfl (pc0 := 121) (pc' := 130) rfl (hb hby at_121) rfl (tlt (by decide : (0 : Int32) < (1 : Int32))).1 (by decide) (by decide) k) ?_
              refine go (T' := T32) (f' := (mkF m 132 #[.val (.int p0), .val (.int p1), .val (.int p2), .val (.int p3), .val (.int (1 : Int32)), .val (.int (1 : Int32)), .val (.int ((((p0).toUInt32 >>> ((2 : Int32) &&& 31).toUInt32).toInt32) &&& (3 : Int32))), .val (.int ((((p0).toUInt32 >>> ((4 : Int32) &&& 31).toUInt32).toInt32) &&& (1 : Int32))), .val (.double e0d), .second, .val (.double e1d), .second, .val (.double e2d), .second, .val (.ref b3), .val (.int (2 : Int32)), .val (.int (0 : Int32)), .unset] [(.int (0 : Int32))])) (by intro t k; exact XS.iload X32.here hx rfl (hb hby at_130) rfl k) ?_
              refine go (T' := T32) (f' := (mkF m 133 #[.val (.int p0), .val (.int p1), .val (.int p2), .val (.int p3), .val (.int (1 : Int32)), .val (.int (1 : Int32)), .val (.int ((((p0).toUInt32 >>> ((2 : Int32) &&& 31).toUInt32).toInt32) &&& (3 : Int32))), .val (.int ((((p0).toUInt32 >>> ((4 : Int32) &&& 31).toUInt32).toInt32) &&& (1 : Int32))), .val (.double e0d), .second, .val (.double e1d), .second, .val (.double e2d), .second, .val (.ref b3), .val (.int (2 : Int32)), .val (.int (0 : Int32)), .unset] [(.int (2 : Int32)), (.int (0 : Int32))])) (by intro t k; exact XS.iconst X32.here hx rfl (hb hby at_132) k) ?_
              refine go (T' := T32) (f' := (mkF m 142 #[.val (.int p0), .val (.int p1), .val (.int p2), .val (.int p3), .val (.int (1 : Int32)), .val (.int (1 : Int32)), .val (.int ((((p0).toUInt32 >>> ((2 : Int32) &&& 31).toUInt32).toInt32) &&& (3 : Int32))), .val (.int ((((p0).toUInt32 >>> ((4 : Int32) &&& 31).toUInt32).toInt32) &&& (1 : Int32))), .val (.double e0d), .second, .val (.double e1d), .second, .val (.double e2d), .second, .val (.ref b3), .val (.int (2 : Int32)), .val (.int (0 : Int32)), .unset] [])) (by intro t k; exact XS.icmpYes X32.here hx rfl (pc0 := 133) (pc' := 142) rfl (hb hby at_133) rfl (tlt (by decide : (0 : Int32) < (2 : Int32))).1 (by decide) (by decide) k) ?_
              refine go (T' := T32) (f' := (mkF m 144 #[.val (.int p0), .val (.int p1), .val (.int p2), .val (.int p3), .val (.int (1 : Int32)), .val (.int (1 : Int32)), .val (.int ((((p0).toUInt32 >>> ((2 : Int32) &&& 31).toUInt32).toInt32) &&& (3 : Int32))), .val (.int ((((p0).toUInt32 >>> ((4 : Int32) &&& 31).toUInt32).toInt32) &&& (1 : Int32))), .val (.double e0d), .second, .val (.double e1d), .second, .val (.double e2d), .second, .val (.ref b3), .val (.int (2 : Int32)), .val (.int (0 : Int32)), .unset] [(.ref b3)])) (by intro t k; exact XS.aload X32.here hx rfl (hb hby at_142) rfl rfl k) ?_
              obtain ⟨cq34, kq34, q34a, q34b, q34c⟩ := isOf hZ e32 E31
              obtain ⟨_, _, ⟨T34, Lz34, kz34, nz34⟩, -, X34, ⟨Lc34, hQ34, lz34, yz34, zz34⟩, st34⟩ := X32.virtualBack hx (y := mclear) (z := mclear) hown (mvT hZ (tw hw 25 rfl)) (mvT hZ (tw hw 26 rfl)) (notFace_of_selects (args := #[]) (mvT hZ (tw hw 28 rfl))) (mvT hZ (tw hw 28 rfl)) (mvT hZ (tw hw 27 rfl)) (by decide) (backOf (W := 0) (rm5t33 l Z aw hw [] b3 bh bd bp e0d e1d  T31.heap n0 Z31 ⟨E31, Fh31, Fd31, Fp31, Fs31, Ft31, Ah31, Ad31, Ap31, g031, gh31, gd31, gp31, n0h31, n0d31, n0p31, nhd31, nhp31, ndp31⟩) hZ (tw hw 29 rfl) (tw hw 2 rfl) (by decide) (by decide)) q34a q34c (g := (mkF m 144 #[.val (.int p0), .val (.int p1), .val (.int p2), .val (.int p3), .val (.int (1 : Int32)), .val (.int (1 : Int32)), .val (.int ((((p0).toUInt32 >>> ((2 : Int32) &&& 31).toUInt32).toInt32) &&& (3 : Int32))), .val (.int ((((p0).toUInt32 >>> ((4 : Int32) &&& 31).toUInt32).toInt32) &&& (1 : Int32))), .val (.double e0d), .second, .val (.double e1d), .second, .val (.double e2d), .second, .val (.ref b3), .val (.int (2 : Int32)), .val (.int (0 : Int32)), .unset] [(.ref b3)])) rfl (by rw [hml]; rfl) (Steps.refl _) (argsL := []) (rest := []) (lenOf pd_2829V rfl) rfl (by show 2 * 0 + _ ≤ _; exact Nat.le_of_eq rfl) (hb hby at_144) (fun _ _ => ⟨rfl, e32, (by decide : 4 + 0 ≤ _), (by decide : 11 + 0 ≤ _)⟩)
              dsimp only [Pt.U, Pt.locs, Pt.cells, Pt.slots] at X34 lz34 yz34 zz34 st34 hQ34
              subst lz34 yz34 zz34
              obtain ⟨rfl, N34q, K34, hD34⟩ := hQ34
              have E34_b3 := Exa.keep E31 K34
              have Z34 : n0 ≤ T34.heap.size := Nat.le_trans Z31 K34.1
              obtain ⟨E34, Fh34, Fd34, Fp34, Fs34, Ft34, Ah34, Ad34, Ap34, g034, gh34, gd34, gp34, n0h34, n0d34, n0p34, nhd34, nhp34, ndp34⟩ := hD34
              have N34 := Fr.app N32 N34q
              refine go (fun _ k => st34.trans k) ?_
              show Run _ _ _ _ _ _ _ T34 (mkF m 147 #[.val (.int p0), .val (.int p1), .val (.int p2), .val (.int p3), .val (.int (1 : Int32)), .val (.int (1 : Int32)), .val (.int ((((p0).toUInt32 >>> ((2 : Int32) &&& 31).toUInt32).toInt32) &&& (3 : Int32))), .val (.int ((((p0).toUInt32 >>> ((4 : Int32) &&& 31).toUInt32).toInt32) &&& (1 : Int32))), .val (.double e0d), .second, .val (.double e1d), .second, .val (.double e2d), .second, .val (.ref b3), .val (.int (2 : Int32)), .val (.int (0 : Int32)), .unset] [])
              exact JC (1 : Int32) (0 : Int32) e0d e1d (.val (.int (1 : Int32))) (.val (.int (1 : Int32))) (.val (.int ((((p0).toUInt32 >>> ((2 : Int32) &&& 31).toUInt32).toInt32) &&& (3 : Int32)))) (.val (.int (2 : Int32))) (.val (.int (0 : Int32))) T34 T34.heap _ X34 rfl N34 Z34 ⟨E34, Fh34, Fd34, Fp34, Fs34, Ft34, Ah34, Ad34, Ap34, g034, gh34, gd34, gp34, n0h34, n0d34, n0p34, nhd34, nhp34, ndp34⟩
            · subst ez
              show Run _ _ _ _ _ _ _ T32 (mkF m 116 #[.val (.int p0), .val (.int p1), .val (.int p2), .val (.int p3), .val (.int (1 : Int32)), .val (.int (1 : Int32)), .val (.int ((((p0).toUInt32 >>> ((2 : Int32) &&& 31).toUInt32).toInt32) &&& (3 : Int32))), .val (.int ((((p0).toUInt32 >>> ((4 : Int32) &&& 31).toUInt32).toInt32) &&& (1 : Int32))), .val (.double e0d), .second, .val (.double e1d), .second, .val (.double e2d), .second, .val (.ref b3), .val (.int (2 : Int32)), .unset, .unset] [(.int (1 : Int32))])
              refine go (T' := T32) (f' := (mkF m 118 #[.val (.int p0), .val (.int p1), .val (.int p2), .val (.int p3), .val (.int (1 : Int32)), .val (.int (1 : Int32)), .val (.int ((((p0).toUInt32 >>> ((2 : Int32) &&& 31).toUInt32).toInt32) &&& (3 : Int32))), .val (.int ((((p0).toUInt32 >>> ((4 : Int32) &&& 31).toUInt32).toInt32) &&& (1 : Int32))), .val (.double e0d), .second, .val (.double e1d), .second, .val (.double e2d), .second, .val (.ref b3), .val (.int (2 : Int32)), .val (.int (1 : Int32)), .unset] [])) (by intro t k; exact XS.istore X32.here hx rfl (hb hby at_116) rfl (l' := #[.val (.int p0), .val (.int p1), .val (.int p2), .val (.int p3), .val (.int (1 : Int32)), .val (.int (1 : Int32)), .val (.int ((((p0).toUInt32 >>> ((2 : Int32) &&& 31).toUInt32).toInt32) &&& (3 : Int32))), .val (.int ((((p0).toUInt32 >>> ((4 : Int32) &&& 31).toUInt32).toInt32) &&& (1 : Int32))), .val (.double e0d), .second, .val (.double e1d), .second, .val (.double e2d), .second, .val (.ref b3), .val (.int (2 : Int32)), .val (.int (1 : Int32)), .unset]) rfl k) ?_
              refine go (T' := T32) (f' := (mkF m 120 #[.val (.int p0), .val (.int p1), .val (.int p2), .val (.int p3), .val (.int (1 : Int32)), .val (.int (1 : Int32)), .val (.int ((((p0).toUInt32 >>> ((2 : Int32) &&& 31).toUInt32).toInt32) &&& (3 : Int32))), .val (.int ((((p0).toUInt32 >>> ((4 : Int32) &&& 31).toUInt32).toInt32) &&& (1 : Int32))), .val (.double e0d), .second, .val (.double e1d), .second, .val (.double e2d), .second, .val (.ref b3), .val (.int (2 : Int32)), .val (.int (1 : Int32)), .unset] [(.int (1 : Int32))])) (by intro t k; exact XS.iload X32.here hx rfl (hb hby at_118) rfl k) ?_
              refine go (T' := T32) (f' := (mkF m 121 #[.val (.int p0), .val (.int p1), .val (.int p2), .val (.int p3), .val (.int (1 : Int32)), .val (.int (1 : Int32)), .val (.int ((((p0).toUInt32 >>> ((2 : Int32) &&& 31).toUInt32).toInt32) &&& (3 : Int32))), .val (.int ((((p0).toUInt32 >>> ((4 : Int32) &&& 31).toUInt32).toInt32) &&& (1 : Int32))), .val (.double e0d), .second, .val (.double e1d), .second, .val (.double e2d), .second, .val (.ref b3), .val (.int (2 : Int32)), .val (.int (1 : Int32)), .unset] [(.int (1 : Int32)), (.int (1 : Int32))])) (by intro t k; exact XS.iconst X32.here hx rfl (hb hby at_120) k) ?_
              refine go (T' := T32) (f' := (mkF m 124 #[.val (.int p0), .val (.int p1), .val (.int p2), .val (.int p3), .val (.int (1 : Int32)), .val (.int (1 : Int32)), .val (.int ((((p0).toUInt32 >>> ((2 : Int32) &&& 31).toUInt32).toInt32) &&& (3 : Int32))), .val (.int ((((p0).toUInt32 >>> ((4 : Int32) &&& 31).toUInt32).toInt32) &&& (1 : Int32))), .val (.double e0d), .second, .val (.double e1d), .second, .val (.double e2d), .second, .val (.ref b3), .val (.int (2 : Int32)), .val (.int (1 : Int32)), .unset] [])) (by intro t k; exact XS.icmpNo X32.here hx rfl (hb hby at_121) rfl (flt (by decide : ¬ ((1 : Int32) < (1 : Int32)))).1 k) ?_
              refine go (T' := T32) (f' := (mkF m 126 #[.val (.int p0), .val (.int p1), .val (.int p2), .val (.int p3), .val (.int (1 : Int32)), .val (.int (1 : Int32)), .val (.int ((((p0).toUInt32 >>> ((2 : Int32) &&& 31).toUInt32).toInt32) &&& (3 : Int32))), .val (.int ((((p0).toUInt32 >>> ((4 : Int32) &&& 31).toUInt32).toInt32) &&& (1 : Int32))), .val (.double e0d), .second, .val (.double e1d), .second, .val (.double e2d), .second, .val (.ref b3), .val (.int (2 : Int32)), .val (.int (1 : Int32)), .unset] [(.ref b3)])) (by intro t k; exact XS.aload X32.here hx rfl (hb hby at_124) rfl rfl k) ?_
              obtain ⟨cq35, kq35, q35a, q35b, q35c⟩ := isOf hZ e32 E31
              obtain ⟨_, _, ⟨T35, Lz35, kz35, nz35⟩, -, X35, ⟨Lc35, hQ35, lz35, yz35, zz35⟩, st35⟩ := X32.virtualBack hx (y := mpoll) (z := mpoll) hown (mvT hZ (tw hw 57 rfl)) (mvT hZ (tw hw 58 rfl)) (notFace_of_selects (args := #[]) (mvT hZ (tw hw 60 rfl))) (mvT hZ (tw hw 60 rfl)) (mvT hZ (tw hw 59 rfl)) (by decide) (backOf (W := 0) (rm11t34 l Z aw hw [] b3 bh bd bp e0d e1d  T31.heap n0 Z31 ⟨E31, Fh31, Fd31, Fp31, Fs31, Ft31, Ah31, Ad31, Ap31, g031, gh31, gd31, gp31, n0h31, n0d31, n0p31, nhd31, nhp31, ndp31⟩) hZ (tw hw 61 rfl) (tw hw 2 rfl) (by decide) (by decide)) q35a q35c (g := (mkF m 126 #[.val (.int p0), .val (.int p1), .val (.int p2), .val (.int p3), .val (.int (1 : Int32)), .val (.int (1 : Int32)), .val (.int ((((p0).toUInt32 >>> ((2 : Int32) &&& 31).toUInt32).toInt32) &&& (3 : Int32))), .val (.int ((((p0).toUInt32 >>> ((4 : Int32) &&& 31).toUInt32).toInt32) &&& (1 : Int32))), .val (.double e0d), .second, .val (.double e1d), .second, .val (.double e2d), .second, .val (.ref b3), .val (.int (2 : Int32)), .val (.int (1 : Int32)), .unset] [(.ref b3)])) rfl (by rw [hml]; rfl) (Steps.refl _) (argsL := []) (rest := []) (lenOf pd_2829I rfl) rfl (by show 2 * 0 + _ ≤ _; exact Nat.le_of_eq rfl) (hb hby at_126) (fun _ _ => ⟨rfl, e32, (by decide : 4 + 0 ≤ _), (by decide : 11 + 0 ≤ _)⟩)
              dsimp only [Pt.U, Pt.locs, Pt.cells, Pt.slots] at X35 lz35 yz35 zz35 st35 hQ35
              subst lz35 yz35 zz35
              obtain ⟨rfl, N35q, K35, hD35⟩ := hQ35
              have E35_b3 := Exa.keep E31 K35
              have Z35 : n0 ≤ T35.heap.size := Nat.le_trans Z31 K35.1
              obtain ⟨E35, Fh35, Fd35, Fp35, Fs35, Ft35, Ah35, Ad35, Ap35, g035, gh35, gd35, gp35, n0h35, n0d35, n0p35, nhd35, nhp35, ndp35⟩ := hD35
              have N35 := Fr.app N32 N35q
              refine go (fun _ k => st35.trans k) ?_
              show Run _ _ _ _ _ _ _ T35 (mkF m 129 #[.val (.int p0), .val (.int p1), .val (.int p2), .val (.int p3), .val (.int (1 : Int32)), .val (.int (1 : Int32)), .val (.int ((((p0).toUInt32 >>> ((2 : Int32) &&& 31).toUInt32).toInt32) &&& (3 : Int32))), .val (.int ((((p0).toUInt32 >>> ((4 : Int32) &&& 31).toUInt32).toInt32) &&& (1 : Int32))), .val (.double e0d), .second, .val (.double e1d), .second, .val (.double e2d), .second, .val (.ref b3), .val (.int (2 : Int32)), .val (.int (1 : Int32)), .unset] [(.int (1 : Int32))])
              refine go (T' := T35) (f' := (mkF m 130 #[.val (.int p0), .val (.int p1), .val (.int p2), .val (.int p3), .val (.int (1 : Int32)), .val (.int (1 : Int32)), .val (.int ((((p0).toUInt32 >>> ((2 : Int32) &&& 31).toUInt32).toInt32) &&& (3 : Int32))), .val (.int ((((p0).toUInt32 >>> ((4 : Int32) &&& 31).toUInt32).toInt32) &&& (1 : Int32))), .val (.double e0d), .second, .val (.double e1d), .second, .val (.double e2d), .second, .val (.ref b3), .val (.int (2 : Int32)), .val (.int (1 : Int32)), .unset] [])) (by intro t k; exact XS.pop X35.here hx rfl (hb hby at_129) rfl rfl k) ?_
              refine go (T' := T35) (f' := (mkF m 132 #[.val (.int p0), .val (.int p1), .val (.int p2), .val (.int p3), .val (.int (1 : Int32)), .val (.int (1 : Int32)), .val (.int ((((p0).toUInt32 >>> ((2 : Int32) &&& 31).toUInt32).toInt32) &&& (3 : Int32))), .val (.int ((((p0).toUInt32 >>> ((4 : Int32) &&& 31).toUInt32).toInt32) &&& (1 : Int32))), .val (.double e0d), .second, .val (.double e1d), .second, .val (.double e2d), .second, .val (.ref b3), .val (.int (2 : Int32)), .val (.int (1 : Int32)), .unset] [(.int (1 : Int32))])) (by intro t k; exact XS.iload X35.here hx rfl (hb hby at_130) rfl k) ?_
              refine go (T' := T35) (f' := (mkF m 133 #[.val (.int p0), .val (.int p1), .val (.int p2), .val (.int p3), .val (.int (1 : Int32)), .val (.int (1 : Int32)), .val (.int ((((p0).toUInt32 >>> ((2 : Int32) &&& 31).toUInt32).toInt32) &&& (3 : Int32))), .val (.int ((((p0).toUInt32 >>> ((4 : Int32) &&& 31).toUInt32).toInt32) &&& (1 : Int32))), .val (.double e0d), .second, .val (.double e1d), .second, .val (.double e2d), .second, .val (.ref b3), .val (.int (2 : Int32)), .val (.int (1 : Int32)), .unset] [(.int (2 : Int32)), (.int (1 : Int32))])) (by intro t k; exact XS.iconst X35.here hx rfl (hb hby at_132) k) ?_
              refine go (T' := T35) (f' := (mkF m 142 #[.val (.int p0), .val (.int p1), .val (.int p2), .val (.int p3), .val (.int (1 : Int32)), .val (.int (1 : Int32)), .val (.int ((((p0).toUInt32 >>> ((2 : Int32) &&& 31).toUInt32).toInt32) &&& (3 : Int32))), .val (.int ((((p0).toUInt32 >>> ((4 : Int32) &&& 31).toUInt32).toInt32) &&& (1 : Int32))), .val (.double e0d), .second, .val (.double e1d), .second, .val (.double e2d), .second, .val (.ref b3), .val (.int (2 : Int32)), .val (.int (1 : Int32)), .unset] [])) (by intro t k; exact XS.icmpYes X35.here hx rfl (pc0 := 133) (pc' := 142) rfl (hb hby at_133) rfl (tlt (by decide : (1 : Int32) < (2 : Int32))).1 (by decide) (by decide) k) ?_
              refine go (T' := T35) (f' := (mkF m 144 #[.val (.int p0), .val (.int p1), .val (.int p2), .val (.int p3), .val (.int (1 : Int32)), .val (.int (1 : Int32)), .val (.int ((((p0).toUInt32 >>> ((2 : Int32) &&& 31).toUInt32).toInt32) &&& (3 : Int32))), .val (.int ((((p0).toUInt32 >>> ((4 : Int32) &&& 31).toUInt32).toInt32) &&& (1 : Int32))), .val (.double e0d), .second, .val (.double e1d), .second, .val (.double e2d), .second, .val (.ref b3), .val (.int (2 : Int32)), .val (.int (1 : Int32)), .unset] [(.ref b3)])) (by intro t k; exact XS.aload X35.here hx rfl (hb hby at_142) rfl rfl k) ?_
              obtain ⟨cq36, kq36, q36a, q36b, q36c⟩ := isOf hZ rfl E35
              obtain ⟨_, _, ⟨T36, Lz36, kz36, nz36⟩, -, X36, ⟨Lc36, hQ36, lz36, yz36, zz36⟩, st36⟩ := X35.virtualBack hx (y := mclear) (z := mclear) hown (mvT hZ (tw hw 25 rfl)) (mvT hZ (tw hw 26 rfl)) (notFace_of_selects (args := #[]) (mvT hZ (tw hw 28 rfl))) (mvT hZ (tw hw 28 rfl)) (mvT hZ (tw hw 27 rfl)) (by decide) (backOf (W := 0) (rm5t37 l Z aw hw [] b3 bh bd bp e0d e1d  T35.heap n0 Z35 ⟨E35, Fh35, Fd35, Fp35, Fs35, Ft35, Ah35, Ad35, Ap35, g035, gh35, gd35, gp35, n0h35, n0d35, n0p35, nhd35, nhp35, ndp35⟩) hZ (tw hw 29 rfl) (tw hw 2 rfl) (by decide) (by decide)) q36a q36c (g := (mkF m 144 #[.val (.int p0), .val (.int p1), .val (.int p2), .val (.int p3), .val (.int (1 : Int32)), .val (.int (1 : Int32)), .val (.int ((((p0).toUInt32 >>> ((2 : Int32) &&& 31).toUInt32).toInt32) &&& (3 : Int32))), .val (.int ((((p0).toUInt32 >>> ((4 : Int32) &&& 31).toUInt32).toInt32) &&& (1 : Int32))), .val (.double e0d), .second, .val (.double e1d), .second, .val (.double e2d), .second, .val (.ref b3), .val (.int (2 : Int32)), .val (.int (1 : Int32)), .unset] [(.ref b3)])) rfl (by rw [hml]; rfl) (Steps.refl _) (argsL := []) (rest := []) (lenOf pd_2829V rfl) rfl (by show 2 * 0 + _ ≤ _; exact Nat.le_of_eq rfl) (hb hby at_144) (fun _ _ => ⟨rfl, rfl, (by decide : 4 + 0 ≤ _), (by decide : 11 + 0 ≤ _)⟩)
              dsimp only [Pt.U, Pt.locs, Pt.cells, Pt.slots] at X36 lz36 yz36 zz36 st36 hQ36
              subst lz36 yz36 zz36
              obtain ⟨rfl, N36q, K36, hD36⟩ := hQ36
              have E36_b3 := Exa.keep E35 K36
              have Z36 : n0 ≤ T36.heap.size := Nat.le_trans Z35 K36.1
              obtain ⟨E36, Fh36, Fd36, Fp36, Fs36, Ft36, Ah36, Ad36, Ap36, g036, gh36, gd36, gp36, n0h36, n0d36, n0p36, nhd36, nhp36, ndp36⟩ := hD36
              have N36 := Fr.app N35 N36q
              refine go (fun _ k => st36.trans k) ?_
              show Run _ _ _ _ _ _ _ T36 (mkF m 147 #[.val (.int p0), .val (.int p1), .val (.int p2), .val (.int p3), .val (.int (1 : Int32)), .val (.int (1 : Int32)), .val (.int ((((p0).toUInt32 >>> ((2 : Int32) &&& 31).toUInt32).toInt32) &&& (3 : Int32))), .val (.int ((((p0).toUInt32 >>> ((4 : Int32) &&& 31).toUInt32).toInt32) &&& (1 : Int32))), .val (.double e0d), .second, .val (.double e1d), .second, .val (.double e2d), .second, .val (.ref b3), .val (.int (2 : Int32)), .val (.int (1 : Int32)), .unset] [])
              exact JC (0 : Int32) (1 : Int32) e0d e1d (.val (.int (1 : Int32))) (.val (.int (1 : Int32))) (.val (.int ((((p0).toUInt32 >>> ((2 : Int32) &&& 31).toUInt32).toInt32) &&& (3 : Int32)))) (.val (.int (2 : Int32))) (.val (.int (1 : Int32))) T36 T36.heap _ X36 rfl N36 Z36 ⟨E36, Fh36, Fd36, Fp36, Fs36, Ft36, Ah36, Ad36, Ap36, g036, gh36, gd36, gp36, n0h36, n0d36, n0p36, nhd36, nhp36, ndp36⟩
            · subst ez
              show Run _ _ _ _ _ _ _ T32 (mkF m 116 #[.val (.int p0), .val (.int p1), .val (.int p2), .val (.int p3), .val (.int (1 : Int32)), .val (.int (1 : Int32)), .val (.int ((((p0).toUInt32 >>> ((2 : Int32) &&& 31).toUInt32).toInt32) &&& (3 : Int32))), .val (.int ((((p0).toUInt32 >>> ((4 : Int32) &&& 31).toUInt32).toInt32) &&& (1 : Int32))), .val (.double e0d), .second, .val (.double e1d), .second, .val (.double e2d), .second, .val (.ref b3), .val (.int (2 : Int32)), .unset, .unset] [(.int (2 : Int32))])
              refine go (T' := T32) (f' := (mkF m 118 #[.val (.int p0), .val (.int p1), .val (.int p2), .val (.int p3), .val (.int (1 : Int32)), .val (.int (1 : Int32)), .val (.int ((((p0).toUInt32 >>> ((2 : Int32) &&& 31).toUInt32).toInt32) &&& (3 : Int32))), .val (.int ((((p0).toUInt32 >>> ((4 : Int32) &&& 31).toUInt32).toInt32) &&& (1 : Int32))), .val (.double e0d), .second, .val (.double e1d), .second, .val (.double e2d), .second, .val (.ref b3), .val (.int (2 : Int32)), .val (.int (2 : Int32)), .unset] [])) (by intro t k; exact XS.istore X32.here hx rfl (hb hby at_116) rfl (l' := #[.val (.int p0), .val (.int p1), .val (.int p2), .val (.int p3), .val (.int (1 : Int32)), .val (.int (1 : Int32)), .val (.int ((((p0).toUInt32 >>> ((2 : Int32) &&& 31).toUInt32).toInt32) &&& (3 : Int32))), .val (.int ((((p0).toUInt32 >>> ((4 : Int32) &&& 31).toUInt32).toInt32) &&& (1 : Int32))), .val (.double e0d), .second, .val (.double e1d), .second, .val (.double e2d), .second, .val (.ref b3), .val (.int (2 : Int32)), .val (.int (2 : Int32)), .unset]) rfl k) ?_
              refine go (T' := T32) (f' := (mkF m 120 #[.val (.int p0), .val (.int p1), .val (.int p2), .val (.int p3), .val (.int (1 : Int32)), .val (.int (1 : Int32)), .val (.int ((((p0).toUInt32 >>> ((2 : Int32) &&& 31).toUInt32).toInt32) &&& (3 : Int32))), .val (.int ((((p0).toUInt32 >>> ((4 : Int32) &&& 31).toUInt32).toInt32) &&& (1 : Int32))), .val (.double e0d), .second, .val (.double e1d), .second, .val (.double e2d), .second, .val (.ref b3), .val (.int (2 : Int32)), .val (.int (2 : Int32)), .unset] [(.int (2 : Int32))])) (by intro t k; exact XS.iload X32.here hx rfl (hb hby at_118) rfl k) ?_
              refine go (T' := T32) (f' := (mkF m 121 #[.val (.int p0), .val (.int p1), .val (.int p2), .val (.int p3), .val (.int (1 : Int32)), .val (.int (1 : Int32)), .val (.int ((((p0).toUInt32 >>> ((2 : Int32) &&& 31).toUInt32).toInt32) &&& (3 : Int32))), .val (.int ((((p0).toUInt32 >>> ((4 : Int32) &&& 31).toUInt32).toInt32) &&& (1 : Int32))), .val (.double e0d), .second, .val (.double e1d), .second, .val (.double e2d), .second, .val (.ref b3), .val (.int (2 : Int32)), .val (.int (2 : Int32)), .unset] [(.int (1 : Int32)), (.int (2 : Int32))])) (by intro t k; exact XS.iconst X32.here hx rfl (hb hby at_120) k) ?_
              refine go (T' := T32) (f' := (mkF m 124 #[.val (.int p0), .val (.int p1), .val (.int p2), .val (.int p3), .val (.int (1 : Int32)), .val (.int (1 : Int32)), .val (.int ((((p0).toUInt32 >>> ((2 : Int32) &&& 31).toUInt32).toInt32) &&& (3 : Int32))), .val (.int ((((p0).toUInt32 >>> ((4 : Int32) &&& 31).toUInt32).toInt32) &&& (1 : Int32))), .val (.double e0d), .second, .val (.double e1d), .second, .val (.double e2d), .second, .val (.ref b3), .val (.int (2 : Int32)), .val (.int (2 : Int32)), .unset] [])) (by intro t k; exact XS.icmpNo X32.here hx rfl (hb hby at_121) rfl (flt (by decide : ¬ ((2 : Int32) < (1 : Int32)))).1 k) ?_
              refine go (T' := T32) (f' := (mkF m 126 #[.val (.int p0), .val (.int p1), .val (.int p2), .val (.int p3), .val (.int (1 : Int32)), .val (.int (1 : Int32)), .val (.int ((((p0).toUInt32 >>> ((2 : Int32) &&& 31).toUInt32).toInt32) &&& (3 : Int32))), .val (.int ((((p0).toUInt32 >>> ((4 : Int32) &&& 31).toUInt32).toInt32) &&& (1 : Int32))), .val (.double e0d), .second, .val (.double e1d), .second, .val (.double e2d), .second, .val (.ref b3), .val (.int (2 : Int32)), .val (.int (2 : Int32)), .unset] [(.ref b3)])) (by intro t k; exact XS.aload X32.here hx rfl (hb hby at_124) rfl rfl k) ?_
              obtain ⟨cq37, kq37, q37a, q37b, q37c⟩ := isOf hZ e32 E31
              obtain ⟨_, _, ⟨T37, Lz37, kz37, nz37⟩, -, X37, ⟨Lc37, hQ37, lz37, yz37, zz37⟩, st37⟩ := X32.virtualBack hx (y := mpoll) (z := mpoll) hown (mvT hZ (tw hw 57 rfl)) (mvT hZ (tw hw 58 rfl)) (notFace_of_selects (args := #[]) (mvT hZ (tw hw 60 rfl))) (mvT hZ (tw hw 60 rfl)) (mvT hZ (tw hw 59 rfl)) (by decide) (backOf (W := 0) (rm11t34 l Z aw hw [] b3 bh bd bp e0d e1d  T31.heap n0 Z31 ⟨E31, Fh31, Fd31, Fp31, Fs31, Ft31, Ah31, Ad31, Ap31, g031, gh31, gd31, gp31, n0h31, n0d31, n0p31, nhd31, nhp31, ndp31⟩) hZ (tw hw 61 rfl) (tw hw 2 rfl) (by decide) (by decide)) q37a q37c (g := (mkF m 126 #[.val (.int p0), .val (.int p1), .val (.int p2), .val (.int p3), .val (.int (1 : Int32)), .val (.int (1 : Int32)), .val (.int ((((p0).toUInt32 >>> ((2 : Int32) &&& 31).toUInt32).toInt32) &&& (3 : Int32))), .val (.int ((((p0).toUInt32 >>> ((4 : Int32) &&& 31).toUInt32).toInt32) &&& (1 : Int32))), .val (.double e0d), .second, .val (.double e1d), .second, .val (.double e2d), .second, .val (.ref b3), .val (.int (2 : Int32)), .val (.int (2 : Int32)), .unset] [(.ref b3)])) rfl (by rw [hml]; rfl) (Steps.refl _) (argsL := []) (rest := []) (lenOf pd_2829I rfl) rfl (by show 2 * 0 + _ ≤ _; exact Nat.le_of_eq rfl) (hb hby at_126) (fun _ _ => ⟨rfl, e32, (by decide : 4 + 0 ≤ _), (by decide : 11 + 0 ≤ _)⟩)
              dsimp only [Pt.U, Pt.locs, Pt.cells, Pt.slots] at X37 lz37 yz37 zz37 st37 hQ37
              subst lz37 yz37 zz37
              obtain ⟨rfl, N37q, K37, hD37⟩ := hQ37
              have E37_b3 := Exa.keep E31 K37
              have Z37 : n0 ≤ T37.heap.size := Nat.le_trans Z31 K37.1
              obtain ⟨E37, Fh37, Fd37, Fp37, Fs37, Ft37, Ah37, Ad37, Ap37, g037, gh37, gd37, gp37, n0h37, n0d37, n0p37, nhd37, nhp37, ndp37⟩ := hD37
              have N37 := Fr.app N32 N37q
              refine go (fun _ k => st37.trans k) ?_
              show Run _ _ _ _ _ _ _ T37 (mkF m 129 #[.val (.int p0), .val (.int p1), .val (.int p2), .val (.int p3), .val (.int (1 : Int32)), .val (.int (1 : Int32)), .val (.int ((((p0).toUInt32 >>> ((2 : Int32) &&& 31).toUInt32).toInt32) &&& (3 : Int32))), .val (.int ((((p0).toUInt32 >>> ((4 : Int32) &&& 31).toUInt32).toInt32) &&& (1 : Int32))), .val (.double e0d), .second, .val (.double e1d), .second, .val (.double e2d), .second, .val (.ref b3), .val (.int (2 : Int32)), .val (.int (2 : Int32)), .unset] [(.int (1 : Int32))])
              refine go (T' := T37) (f' := (mkF m 130 #[.val (.int p0), .val (.int p1), .val (.int p2), .val (.int p3), .val (.int (1 : Int32)), .val (.int (1 : Int32)), .val (.int ((((p0).toUInt32 >>> ((2 : Int32) &&& 31).toUInt32).toInt32) &&& (3 : Int32))), .val (.int ((((p0).toUInt32 >>> ((4 : Int32) &&& 31).toUInt32).toInt32) &&& (1 : Int32))), .val (.double e0d), .second, .val (.double e1d), .second, .val (.double e2d), .second, .val (.ref b3), .val (.int (2 : Int32)), .val (.int (2 : Int32)), .unset] [])) (by intro t k; exact XS.pop X37.here hx rfl (hb hby at_129) rfl rfl k) ?_
              refine go (T' := T37) (f' := (mkF m 132 #[.val (.int p0), .val (.int p1), .val (.int p2), .val (.int p3), .val (.int (1 : Int32)), .val (.int (1 : Int32)), .val (.int ((((p0).toUInt32 >>> ((2 : Int32) &&& 31).toUInt32).toInt32) &&& (3 : Int32))), .val (.int ((((p0).toUInt32 >>> ((4 : Int32) &&& 31).toUInt32).toInt32) &&& (1 : Int32))), .val (.double e0d), .second, .val (.double e1d), .second, .val (.double e2d), .second, .val (.ref b3), .val (.int (2 : Int32)), .val (.int (2 : Int32)), .unset] [(.int (2 : Int32))])) (by intro t k; exact XS.iload X37.here hx rfl (hb hby at_130) rfl k) ?_
              refine go (T' := T37) (f' := (mkF m 133 #[.val (.int p0), .val (.int p1), .val (.int p2), .val (.int p3), .val (.int (1 : Int32)), .val (.int (1 : Int32)), .val (.int ((((p0).toUInt32 >>> ((2 : Int32) &&& 31).toUInt32).toInt32) &&& (3 : Int32))), .val (.int ((((p0).toUInt32 >>> ((4 : Int32) &&& 31).toUInt32).toInt32) &&& (1 : Int32))), .val (.double e0d), .second, .val (.double e1d), .second, .val (.double e2d), .second, .val (.ref b3), .val (.int (2 : Int32)), .val (.int (2 : Int32)), .unset] [(.int (2 : Int32)), (.int (2 : Int32))])) (by intro t k; exact XS.iconst X37.here hx rfl (hb hby at_132) k) ?_
              refine go (T' := T37) (f' := (mkF m 136 #[.val (.int p0), .val (.int p1), .val (.int p2), .val (.int p3), .val (.int (1 : Int32)), .val (.int (1 : Int32)), .val (.int ((((p0).toUInt32 >>> ((2 : Int32) &&& 31).toUInt32).toInt32) &&& (3 : Int32))), .val (.int ((((p0).toUInt32 >>> ((4 : Int32) &&& 31).toUInt32).toInt32) &&& (1 : Int32))), .val (.double e0d), .second, .val (.double e1d), .second, .val (.double e2d), .second, .val (.ref b3), .val (.int (2 : Int32)), .val (.int (2 : Int32)), .unset] [])) (by intro t k; exact XS.icmpNo X37.here hx rfl (hb hby at_133) rfl (flt (by decide : ¬ ((2 : Int32) < (2 : Int32)))).1 k) ?_
              refine go (T' := T37) (f' := (mkF m 138 #[.val (.int p0), .val (.int p1), .val (.int p2), .val (.int p3), .val (.int (1 : Int32)), .val (.int (1 : Int32)), .val (.int ((((p0).toUInt32 >>> ((2 : Int32) &&& 31).toUInt32).toInt32) &&& (3 : Int32))), .val (.int ((((p0).toUInt32 >>> ((4 : Int32) &&& 31).toUInt32).toInt32) &&& (1 : Int32))), .val (.double e0d), .second, .val (.double e1d), .second, .val (.double e2d), .second, .val (.ref b3), .val (.int (2 : Int32)), .val (.int (2 : Int32)), .unset] [(.ref b3)])) (by intro t k; exact XS.aload X37.here hx rfl (hb hby at_136) rfl rfl k) ?_
              obtain ⟨cq38, kq38, q38a, q38b, q38c⟩ := isOf hZ rfl E37
              obtain ⟨_, _, ⟨T38, Lz38, kz38, nz38⟩, -, X38, ⟨Lc38, hQ38, lz38, yz38, zz38⟩, st38⟩ := X37.virtualBack hx (y := mpoll) (z := mpoll) hown (mvT hZ (tw hw 57 rfl)) (mvT hZ (tw hw 58 rfl)) (notFace_of_selects (args := #[]) (mvT hZ (tw hw 60 rfl))) (mvT hZ (tw hw 60 rfl)) (mvT hZ (tw hw 59 rfl)) (by decide) (backOf (W := 0) (rm11t38 l Z aw hw [] b3 bh bd bp e0d e1d  T37.heap n0 Z37 ⟨E37, Fh37, Fd37, Fp37, Fs37, Ft37, Ah37, Ad37, Ap37, g037, gh37, gd37, gp37, n0h37, n0d37, n0p37, nhd37, nhp37, ndp37⟩) hZ (tw hw 61 rfl) (tw hw 2 rfl) (by decide) (by decide)) q38a q38c (g := (mkF m 138 #[.val (.int p0), .val (.int p1), .val (.int p2), .val (.int p3), .val (.int (1 : Int32)), .val (.int (1 : Int32)), .val (.int ((((p0).toUInt32 >>> ((2 : Int32) &&& 31).toUInt32).toInt32) &&& (3 : Int32))), .val (.int ((((p0).toUInt32 >>> ((4 : Int32) &&& 31).toUInt32).toInt32) &&& (1 : Int32))), .val (.double e0d), .second, .val (.double e1d), .second, .val (.double e2d), .second, .val (.ref b3), .val (.int (2 : Int32)), .val (.int (2 : Int32)), .unset] [(.ref b3)])) rfl (by rw [hml]; rfl) (Steps.refl _) (argsL := []) (rest := []) (lenOf pd_2829I rfl) rfl (by show 2 * 0 + _ ≤ _; exact Nat.le_of_eq rfl) (hb hby at_138) (fun _ _ => ⟨rfl, rfl, (by decide : 4 + 0 ≤ _), (by decide : 11 + 0 ≤ _)⟩)
              dsimp only [Pt.U, Pt.locs, Pt.cells, Pt.slots] at X38 lz38 yz38 zz38 st38 hQ38
              subst lz38 yz38 zz38
              obtain ⟨rfl, N38q, K38, hD38⟩ := hQ38
              have E38_b3 := Exa.keep E37 K38
              have Z38 : n0 ≤ T38.heap.size := Nat.le_trans Z37 K38.1
              obtain ⟨E38, Fh38, Fd38, Fp38, Fs38, Ft38, Ah38, Ad38, Ap38, g038, gh38, gd38, gp38, n0h38, n0d38, n0p38, nhd38, nhp38, ndp38⟩ := hD38
              have N38 := Fr.app N37 N38q
              refine go (fun _ k => st38.trans k) ?_
              show Run _ _ _ _ _ _ _ T38 (mkF m 141 #[.val (.int p0), .val (.int p1), .val (.int p2), .val (.int p3), .val (.int (1 : Int32)), .val (.int (1 : Int32)), .val (.int ((((p0).toUInt32 >>> ((2 : Int32) &&& 31).toUInt32).toInt32) &&& (3 : Int32))), .val (.int ((((p0).toUInt32 >>> ((4 : Int32) &&& 31).toUInt32).toInt32) &&& (1 : Int32))), .val (.double e0d), .second, .val (.double e1d), .second, .val (.double e2d), .second, .val (.ref b3), .val (.int (2 : Int32)), .val (.int (2 : Int32)), .unset] [(.int (0 : Int32))])
              refine go (T' := T38) (f' := (mkF m 142 #[.val (.int p0), .val (.int p1), .val (.int p2), .val (.int p3), .val (.int (1 : Int32)), .val (.int (1 : Int32)), .val (.int ((((p0).toUInt32 >>> ((2 : Int32) &&& 31).toUInt32).toInt32) &&& (3 : Int32))), .val (.int ((((p0).toUInt32 >>> ((4 : Int32) &&& 31).toUInt32).toInt32) &&& (1 : Int32))), .val (.double e0d), .second, .val (.double e1d), .second, .val (.double e2d), .second, .val (.ref b3), .val (.int (2 : Int32)), .val (.int (2 : Int32)), .unset] [])) (by intro t k; exact XS.pop X38.here hx rfl (hb hby at_141) rfl rfl k) ?_
              refine go (T' := T38) (f' := (mkF m 144 #[.val (.int p0), .val (.int p1), .val (.int p2), .val (.int p3), .val (.int (1 : Int32)), .val (.int (1 : Int32)), .val (.int ((((p0).toUInt32 >>> ((2 : Int32) &&& 31).toUInt32).toInt32) &&& (3 : Int32))), .val (.int ((((p0).toUInt32 >>> ((4 : Int32) &&& 31).toUInt32).toInt32) &&& (1 : Int32))), .val (.double e0d), .second, .val (.double e1d), .second, .val (.double e2d), .second, .val (.ref b3), .val (.int (2 : Int32)), .val (.int (2 : Int32)), .unset] [(.ref b3)])) (by intro t k; exact XS.aload X38.here hx rfl (hb hby at_142) rfl rfl k) ?_
              obtain ⟨cq39, kq39, q39a, q39b, q39c⟩ := isOf hZ rfl E38
              obtain ⟨_, _, ⟨T39, Lz39, kz39, nz39⟩, -, X39, ⟨Lc39, hQ39, lz39, yz39, zz39⟩, st39⟩ := X38.virtualBack hx (y := mclear) (z := mclear) hown (mvT hZ (tw hw 25 rfl)) (mvT hZ (tw hw 26 rfl)) (notFace_of_selects (args := #[]) (mvT hZ (tw hw 28 rfl))) (mvT hZ (tw hw 28 rfl)) (mvT hZ (tw hw 27 rfl)) (by decide) (backOf (W := 0) (rm5t39 l Z aw hw [] b3 bh bd bp e0d e1d  T38.heap n0 Z38 ⟨E38, Fh38, Fd38, Fp38, Fs38, Ft38, Ah38, Ad38, Ap38, g038, gh38, gd38, gp38, n0h38, n0d38, n0p38, nhd38, nhp38, ndp38⟩) hZ (tw hw 29 rfl) (tw hw 2 rfl) (by decide) (by decide)) q39a q39c (g := (mkF m 144 #[.val (.int p0), .val (.int p1), .val (.int p2), .val (.int p3), .val (.int (1 : Int32)), .val (.int (1 : Int32)), .val (.int ((((p0).toUInt32 >>> ((2 : Int32) &&& 31).toUInt32).toInt32) &&& (3 : Int32))), .val (.int ((((p0).toUInt32 >>> ((4 : Int32) &&& 31).toUInt32).toInt32) &&& (1 : Int32))), .val (.double e0d), .second, .val (.double e1d), .second, .val (.double e2d), .second, .val (.ref b3), .val (.int (2 : Int32)), .val (.int (2 : Int32)), .unset] [(.ref b3)])) rfl (by rw [hml]; rfl) (Steps.refl _) (argsL := []) (rest := []) (lenOf pd_2829V rfl) rfl (by show 2 * 0 + _ ≤ _; exact Nat.le_of_eq rfl) (hb hby at_144) (fun _ _ => ⟨rfl, rfl, (by decide : 4 + 0 ≤ _), (by decide : 11 + 0 ≤ _)⟩)
              dsimp only [Pt.U, Pt.locs, Pt.cells, Pt.slots] at X39 lz39 yz39 zz39 st39 hQ39
              subst lz39 yz39 zz39
              obtain ⟨rfl, N39q, K39, hD39⟩ := hQ39
              have E39_b3 := Exa.keep E38 K39
              have Z39 : n0 ≤ T39.heap.size := Nat.le_trans Z38 K39.1
              obtain ⟨E39, Fh39, Fd39, Fp39, Fs39, Ft39, Ah39, Ad39, Ap39, g039, gh39, gd39, gp39, n0h39, n0d39, n0p39, nhd39, nhp39, ndp39⟩ := hD39
              have N39 := Fr.app N38 N39q
              refine go (fun _ k => st39.trans k) ?_
              show Run _ _ _ _ _ _ _ T39 (mkF m 147 #[.val (.int p0), .val (.int p1), .val (.int p2), .val (.int p3), .val (.int (1 : Int32)), .val (.int (1 : Int32)), .val (.int ((((p0).toUInt32 >>> ((2 : Int32) &&& 31).toUInt32).toInt32) &&& (3 : Int32))), .val (.int ((((p0).toUInt32 >>> ((4 : Int32) &&& 31).toUInt32).toInt32) &&& (1 : Int32))), .val (.double e0d), .second, .val (.double e1d), .second, .val (.double e2d), .second, .val (.ref b3), .val (.int (2 : Int32)), .val (.int (2 : Int32)), .unset] [])
              exact JC (0 : Int32) (1 : Int32) e0d e1d (.val (.int (1 : Int32))) (.val (.int (1 : Int32))) (.val (.int ((((p0).toUInt32 >>> ((2 : Int32) &&& 31).toUInt32).toInt32) &&& (3 : Int32)))) (.val (.int (2 : Int32))) (.val (.int (2 : Int32))) T39 T39.heap _ X39 rfl N39 Z39 ⟨E39, Fh39, Fd39, Fp39, Fs39, Ft39, Ah39, Ad39, Ap39, g039, gh39, gd39, gp39, n0h39, n0d39, n0p39, nhd39, nhp39, ndp39⟩
          · obtain ⟨E31, Fh31, Fd31, Fp31, Fs31, Ft31, Ah31, Ad31, Ap31, g031, gh31, gd31, gp31, n0h31, n0d31, n0p31, nhd31, nhp31, ndp31⟩ := hD31
            show Run _ _ _ _ _ _ _ T31 (mkF m 106 #[.val (.int p0), .val (.int p1), .val (.int p2), .val (.int p3), .val (.int (1 : Int32)), .val (.int (1 : Int32)), .val (.int ((((p0).toUInt32 >>> ((2 : Int32) &&& 31).toUInt32).toInt32) &&& (3 : Int32))), .val (.int ((((p0).toUInt32 >>> ((4 : Int32) &&& 31).toUInt32).toInt32) &&& (1 : Int32))), .val (.double e0d), .second, .val (.double e1d), .second, .val (.double e2d), .second, .val (.ref b3), .val (.int (1 : Int32)), .unset, .unset] [])
            refine go (T' := T31) (f' := (mkF m 109 #[.val (.int p0), .val (.int p1), .val (.int p2), .val (.int p3), .val (.int (1 : Int32)), .val (.int (1 : Int32)), .val (.int ((((p0).toUInt32 >>> ((2 : Int32) &&& 31).toUInt32).toInt32) &&& (3 : Int32))), .val (.int ((((p0).toUInt32 >>> ((4 : Int32) &&& 31).toUInt32).toInt32) &&& (1 : Int32))), .val (.double e0d), .second, .val (.double e1d), .second, .val (.double e2d), .second, .val (.ref b3), .val (.int (2 : Int32)), .unset, .unset] [])) (by intro t k; exact XS.iinc X31.here hx rfl (hb hby at_106) rfl (l' := #[.val (.int p0), .val (.int p1), .val (.int p2), .val (.int p3), .val (.int (1 : Int32)), .val (.int (1 : Int32)), .val (.int ((((p0).toUInt32 >>> ((2 : Int32) &&& 31).toUInt32).toInt32) &&& (3 : Int32))), .val (.int ((((p0).toUInt32 >>> ((4 : Int32) &&& 31).toUInt32).toInt32) &&& (1 : Int32))), .val (.double e0d), .second, .val (.double e1d), .second, .val (.double e2d), .second, .val (.ref b3), .val (.int (2 : Int32)), .unset, .unset]) rfl k) ?_
            refine go (T' := T31) (f' := (mkF m 111 #[.val (.int p0), .val (.int p1), .val (.int p2), .val (.int p3), .val (.int (1 : Int32)), .val (.int (1 : Int32)), .val (.int ((((p0).toUInt32 >>> ((2 : Int32) &&& 31).toUInt32).toInt32) &&& (3 : Int32))), .val (.int ((((p0).toUInt32 >>> ((4 : Int32) &&& 31).toUInt32).toInt32) &&& (1 : Int32))), .val (.double e0d), .second, .val (.double e1d), .second, .val (.double e2d), .second, .val (.ref b3), .val (.int (2 : Int32)), .unset, .unset] [(.int ((((p0).toUInt32 >>> ((2 : Int32) &&& 31).toUInt32).toInt32) &&& (3 : Int32)))])) (by intro t k; exact XS.iload X31.here hx rfl (hb hby at_109) rfl k) ?_
            refine go (T' := T31) (f' := (mkF m 113 #[.val (.int p0), .val (.int p1), .val (.int p2), .val (.int p3), .val (.int (1 : Int32)), .val (.int (1 : Int32)), .val (.int ((((p0).toUInt32 >>> ((2 : Int32) &&& 31).toUInt32).toInt32) &&& (3 : Int32))), .val (.int ((((p0).toUInt32 >>> ((4 : Int32) &&& 31).toUInt32).toInt32) &&& (1 : Int32))), .val (.double e0d), .second, .val (.double e1d), .second, .val (.double e2d), .second, .val (.ref b3), .val (.int (2 : Int32)), .unset, .unset] [(.int (2 : Int32)), (.int ((((p0).toUInt32 >>> ((2 : Int32) &&& 31).toUInt32).toInt32) &&& (3 : Int32)))])) (by intro t k; exact XS.iload X31.here hx rfl (hb hby at_111) rfl k) ?_
            obtain ⟨_, _, ⟨T40, Lz40, kz40, nz40⟩, -, X40, ⟨Lc40, hQ40, lz40, yz40, zz40⟩, st40⟩ := Jvm.LawKit.callS X31 hx (y := (⟨"java/lang/Math", "min", "(II)I"⟩ : MethodName)) hown (mvT hZ (tw hw 21 rfl)) (mvT hZ (tw hw 22 rfl)) (mvT hZ (tw hw 23 rfl)) (mvT hZ (tw hw 24 rfl)) (by decide) (backOf (W := 0) (rm4 l Z aw hw [] ((((p0).toUInt32 >>> ((2 : Int32) &&& 31).toUInt32).toInt32) &&& (3 : Int32)) (2 : Int32)  T31.heap n0 Z31 ) hZ (tw hw 24 rfl) (tw hw 23 rfl) (by decide) (by decide)) (g := (mkF m 113 #[.val (.int p0), .val (.int p1), .val (.int p2), .val (.int p3), .val (.int (1 : Int32)), .val (.int (1 : Int32)), .val (.int ((((p0).toUInt32 >>> ((2 : Int32) &&& 31).toUInt32).toInt32) &&& (3 : Int32))), .val (.int ((((p0).toUInt32 >>> ((4 : Int32) &&& 31).toUInt32).toInt32) &&& (1 : Int32))), .val (.double e0d), .second, .val (.double e1d), .second, .val (.double e2d), .second, .val (.ref b3), .val (.int (2 : Int32)), .unset, .unset] [(.int (2 : Int32)), (.int ((((p0).toUInt32 >>> ((2 : Int32) &&& 31).toUInt32).toInt32) &&& (3 : Int32)))])) rfl (by rw [hml]; rfl) (argsL := [(.int ((((p0).toUInt32 >>> ((2 : Int32) &&& 31).toUInt32).toInt32) &&& (3 : Int32))), (.int (2 : Int32))]) (rest := []) (lenOf pd_28II29I rfl) rfl (by show 2 * 0 + _ ≤ _; exact Nat.le_of_eq rfl) (hb hby at_113) (fun _ _ => ⟨rfl, rfl, (by decide : 4 + 0 ≤ _), (by decide : 11 + 0 ≤ _)⟩)
            dsimp only [Pt.U, Pt.locs, Pt.cells, Pt.slots] at X40 lz40 yz40 zz40 st40 hQ40
            subst lz40 yz40 zz40
            obtain ⟨rfl, N40q, e40⟩ := hQ40
            have N40 := Fr.app N31 N40q
            refine go st40 ?_
            obtain ⟨z41, hz41⟩ : ∃ z : Int32, z = (own_min ((((p0).toUInt32 >>> ((2 : Int32) &&& 31).toUInt32).toInt32) &&& (3 : Int32)) (2 : Int32)) := ⟨_, rfl⟩
            rw [← hz41]
            rcases (own_p2 hz41 : z41 = (0 : Int32) ∨ z41 = (1 : Int32) ∨ z41 = (2 : Int32)) with ez | ez | ez
            · subst ez
              show Run _ _ _ _ _ _ _ T40 (mkF m 116 #[.val (.int p0), .val (.int p1), .val (.int p2), .val (.int p3), .val (.int (1 : Int32)), .val (.int (1 : Int32)), .val (.int ((((p0).toUInt32 >>> ((2 : Int32) &&& 31).toUInt32).toInt32) &&& (3 : Int32))), .val (.int ((((p0).toUInt32 >>> ((4 : Int32) &&& 31).toUInt32).toInt32) &&& (1 : Int32))), .val (.double e0d), .second, .val (.double e1d), .second, .val (.double e2d), .second, .val (.ref b3), .val (.int (2 : Int32)), .unset, .unset] [(.int (0 : Int32))])
              refine go (T' := T40) (f' := (mkF m 118 #[.val (.int p0), .val (.int p1), .val (.int p2), .val (.int p3), .val (.int (1 : Int32)), .val (.int (1 : Int32)), .val (.int ((((p0).toUInt32 >>> ((2 : Int32) &&& 31).toUInt32).toInt32) &&& (3 : Int32))), .val (.int ((((p0).toUInt32 >>> ((4 : Int32) &&& 31).toUInt32).toInt32) &&& (1 : Int32))), .val (.double e0d), .second, .val (.double e1d), .second, .val (.double e2d), .second, .val (.ref b3), .val (.int (2 : Int32)), .val (.int (0 : Int32)), .unset] [])) (by intro t k; exact XS.istore X40.here hx rfl (hb hby at_116) rfl (l' := #[.val (.int p0), .val (.int p1), .val (.int p2), .val (.int p3), .val (.int (1 : Int32)), .val (.int (1 : Int32)), .val (.int ((((p0).toUInt32 >>> ((2 : Int32) &&& 31).toUInt32).toInt32) &&& (3 : Int32))), .val (.int ((((p0).toUInt32 >>> ((4 : Int32) &&& 31).toUInt32).toInt32) &&& (1 : Int32))), .val (.double e0d), .second, .val (.double e1d), .second, .val (.double e2d), .second, .val (.ref b3), .val (.int (2 : Int32)), .val (.int (0 : Int32)), .unset]) rfl k) ?_
              refine go (T' := T40) (f' := (mkF m 120 #[.val (.int p0), .val (.int p1), .val (.int p2), .val (.int p3), .val (.int (1 : Int32)), .val (.int (1 : Int32)), .val (.int ((((p0).toUInt32 >>> ((2 : Int32) &&& 31).toUInt32).toInt32) &&& (3 : Int32))), .val (.int ((((p0).toUInt32 >>> ((4 : Int32) &&& 31).toUInt32).toInt32) &&& (1 : Int32))), .val (.double e0d), .second, .val (.double e1d), .second, .val (.double e2d), .second, .val (.ref b3), .val (.int (2 : Int32)), .val (.int (0 : Int32)), .unset] [(.int (0 : Int32))])) (by intro t k; exact XS.iload X40.here hx rfl (hb hby at_118) rfl k) ?_
              refine go (T' := T40) (f' := (mkF m 121 #[.val (.int p0), .val (.int p1), .val (.int p2), .val (.int p3), .val (.int (1 : Int32)), .val (.int (1 : Int32)), .val (.int ((((p0).toUInt32 >>> ((2 : Int32) &&& 31).toUInt32).toInt32) &&& (3 : Int32))), .val (.int ((((p0).toUInt32 >>> ((4 : Int32) &&& 31).toUInt32).toInt32) &&& (1 : Int32))), .val (.double e0d), .second, .val (.double e1d), .second, .val (.double e2d), .second, .val (.ref b3), .val (.int (2 : Int32)), .val (.int (0 : Int32)), .unset] [(.int (1 : Int32)), (.int (0 : Int32))])) (by intro t k; exact XS.iconst X40.here hx rfl (hb hby at_120) k) ?_
              refine go (T' := T40) (f' := (mkF m 130 #[.val (.int p0), .val (.int p1), .val (.int p2), .val (.int p3), .val (.int (1 : Int32)), .val (.int (1 : Int32)), .val (.int ((((p0).toUInt32 >>> ((2 : Int32) &&& 31).toUInt32).toInt32) &&& (3 : Int32))), .val (.int ((((p0).toUInt32 >>> ((4 : Int32) &&& 31).toUInt32).toInt32) &&& (1 : Int32))), .val (.double e0d), .second, .val (.double e1d), .second, .val (.double e2d), .second, .val (.ref b3), .val (.int (2 : Int32)), .val (.int (0 : Int32)), .unset] [])) (by intro t k; exact XS.icmpYes X40.here hx rfl (pc0 := 121) (pc' := 130) rfl (hb hby at_121) rfl (tlt (by decide : (0 : Int32) < (1 : Int32))).1 (by decide) (by decide) k) ?_
              refine go (T' := T40) (f' := (mkF m 132 #[.val (.int p0), .val (.int p1), .val (.int p2), .val (.int p3), .val (.int (1 : Int32)), .val (.int (1 : Int32)), .val (.int ((((p0).toUInt32 >>> ((2 : Int32) &&& 31).toUInt32).toInt32) &&& (3 : Int32))), .val (.int ((((p0).toUInt32 >>> ((4 : Int32) &&& 31).toUInt32).toInt32) &&& (1 : Int32))), .val (.double e0d), .second, .val (.double e1d), .second, .val (.double e2d), .second, .val (.ref b3), .val (.int (2 : Int32)), .val (.int (0 : Int32)), .unset] [(.int (0 : Int32))])) (by intro t k; exact XS.iload X40.here hx rfl (hb hby at_130) rfl k) ?_
              refine go (T' := T40) (f' := (mkF m 133 #[.val (.int p0), .val (.int p1), .val (.int p2), .val (.int p3), .val (.int (1 : Int32)), .val (.int (1 : Int32)), .val (.int ((((p0).toUInt32 >>> ((2 : Int32) &&& 31).toUInt32).toInt32) &&& (3 : Int32))), .val (.int ((((p0).toUInt32 >>> ((4 : Int32) &&& 31).toUInt32).toInt32) &&& (1 : Int32))), .val (.double e0d), .second, .val (.double e1d), .second, .val (.double e2d), .second, .val (.ref b3), .val (.int (2 : Int32)), .val (.int (0 : Int32)), .unset] [(.int (2 : Int32)), (.int (0 : Int32))])) (by intro t k; exact XS.iconst X40.here hx rfl (hb hby at_132) k) ?_
              refine go (T' := T40) (f' := (mkF m 142 #[.val (.int p0), .val (.int p1), .val (.int p2), .val (.int p3), .val (.int (1 : Int32)), .val (.int (1 : Int32)), .val (.int ((((p0).toUInt32 >>> ((2 : Int32) &&& 31).toUInt32).toInt32) &&& (3 : Int32))), .val (.int ((((p0).toUInt32 >>> ((4 : Int32) &&& 31).toUInt32).toInt32) &&& (1 : Int32))), .val (.double e0d), .second, .val (.double e1d), .second, .val (.double e2d), .second, .val (.ref b3), .val (.int (2 : Int32)), .val (.int (0 : Int32)), .unset] [])) (by intro t k; exact XS.icmpYes X40.here hx rfl (pc0 := 133) (pc' := 142) rfl (hb hby at_133) rfl (tlt (by decide : (0 : Int32) < (2 : Int32))).1 (by decide) (by decide) k) ?_
              refine go (T' := T40) (f' := (mkF m 144 #[.val (.int p0), .val (.int p1), .val (.int p2), .val (.int p3), .val (.int (1 : Int32)), .val (.int (1 : Int32)), .val (.int ((((p0).toUInt32 >>> ((2 : Int32) &&& 31).toUInt32).toInt32) &&& (3 : Int32))), .val (.int ((((p0).toUInt32 >>> ((4 : Int32) &&& 31).toUInt32).toInt32) &&& (1 : Int32))), .val (.double e0d), .second, .val (.double e1d), .second, .val (.double e2d), .second, .val (.ref b3), .val (.int (2 : Int32)), .val (.int (0 : Int32)), .unset] [(.ref b3)])) (by intro t k; exact XS.aload X40.here hx rfl (hb hby at_142) rfl rfl k) ?_
              obtain ⟨cq42, kq42, q42a, q42b, q42c⟩ := isOf hZ e40 E31
              obtain ⟨_, _, ⟨T42, Lz42, kz42, nz42⟩, -, X42, ⟨Lc42, hQ42, lz42, yz42, zz42⟩, st42⟩ := X40.virtualBack hx (y := mclear) (z := mclear) hown (mvT hZ (tw hw 25 rfl)) (mvT hZ (tw hw 26 rfl)) (notFace_of_selects (args := #[]) (mvT hZ (tw hw 28 rfl))) (mvT hZ (tw hw 28 rfl)) (mvT hZ (tw hw 27 rfl)) (by decide) (backOf (W := 0) (rm5t40 l Z aw hw [] b3 bh bd bp e0d e1d  T31.heap n0 Z31 ⟨E31, Fh31, Fd31, Fp31, Fs31, Ft31, Ah31, Ad31, Ap31, g031, gh31, gd31, gp31, n0h31, n0d31, n0p31, nhd31, nhp31, ndp31⟩) hZ (tw hw 29 rfl) (tw hw 2 rfl) (by decide) (by decide)) q42a q42c (g := (mkF m 144 #[.val (.int p0), .val (.int p1), .val (.int p2), .val (.int p3), .val (.int (1 : Int32)), .val (.int (1 : Int32)), .val (.int ((((p0).toUInt32 >>> ((2 : Int32) &&& 31).toUInt32).toInt32) &&& (3 : Int32))), .val (.int ((((p0).toUInt32 >>> ((4 : Int32) &&& 31).toUInt32).toInt32) &&& (1 : Int32))), .val (.double e0d), .second, .val (.double e1d), .second, .val (.double e2d), .second, .val (.ref b3), .val (.int (2 : Int32)), .val (.int (0 : Int32)), .unset] [(.ref b3)])) rfl (by rw [hml]; rfl) (Steps.refl _) (argsL := []) (rest := []) (lenOf pd_2829V rfl) rfl (by show 2 * 0 + _ ≤ _; exact Nat.le_of_eq rfl) (hb hby at_144) (fun _ _ => ⟨rfl, e40, (by decide : 4 + 0 ≤ _), (by decide : 11 + 0 ≤ _)⟩)
              dsimp only [Pt.U, Pt.locs, Pt.cells, Pt.slots] at X42 lz42 yz42 zz42 st42 hQ42
              subst lz42 yz42 zz42
              obtain ⟨rfl, N42q, K42, hD42⟩ := hQ42
              have E42_b3 := Exa.keep E31 K42
              have Z42 : n0 ≤ T42.heap.size := Nat.le_trans Z31 K42.1
              obtain ⟨E42, Fh42, Fd42, Fp42, Fs42, Ft42, Ah42, Ad42, Ap42, g042, gh42, gd42, gp42, n0h42, n0d42, n0p42, nhd42, nhp42, ndp42⟩ := hD42
              have N42 := Fr.app N40 N42q
              refine go (fun _ k => st42.trans k) ?_
              show Run _ _ _ _ _ _ _ T42 (mkF m 147 #[.val (.int p0), .val (.int p1), .val (.int p2), .val (.int p3), .val (.int (1 : Int32)), .val (.int (1 : Int32)), .val (.int ((((p0).toUInt32 >>> ((2 : Int32) &&& 31).toUInt32).toInt32) &&& (3 : Int32))), .val (.int ((((p0).toUInt32 >>> ((4 : Int32) &&& 31).toUInt32).toInt32) &&& (1 : Int32))), .val (.double e0d), .second, .val (.double e1d), .second, .val (.double e2d), .second, .val (.ref b3), .val (.int (2 : Int32)), .val (.int (0 : Int32)), .unset] [])
              exact JC (0 : Int32) (1 : Int32) e0d e1d (.val (.int (1 : Int32))) (.val (.int (1 : Int32))) (.val (.int ((((p0).toUInt32 >>> ((2 : Int32) &&& 31).toUInt32).toInt32) &&& (3 : Int32)))) (.val (.int (2 : Int32))) (.val (.int (0 : Int32))) T42 T42.heap _ X42 rfl N42 Z42 ⟨E42, Fh42, Fd42, Fp42, Fs42, Ft42, Ah42, Ad42, Ap42, g042, gh42, gd42, gp42, n0h42, n0d42, n0p42, nhd42, nhp42, ndp42⟩
            · subst ez
              show Run _ _ _ _ _ _ _ T40 (mkF m 116 #[.val (.int p0), .val (.int p1), .val (.int p2), .val (.int p3), .val (.int (1 : Int32)), .val (.int (1 : Int32)), .val (.int ((((p0).toUInt32 >>> ((2 : Int32) &&& 31).toUInt32).toInt32) &&& (3 : Int32))), .val (.int ((((p0).toUInt32 >>> ((4 : Int32) &&& 31).toUInt32).toInt32) &&& (1 : Int32))), .val (.double e0d), .second, .val (.double e1d), .second, .val (.double e2d), .second, .val (.ref b3), .val (.int (2 : Int32)), .unset, .unset] [(.int (1 : Int32))])
              refine go (T' := T40) (f' := (mkF m 118 #[.val (.int p0), .val (.int p1), .val (.int p2), .val (.int p3), .val (.int (1 : Int32)), .val (.int (1 : Int32)), .val (.int ((((p0).toUInt32 >>> ((2 : Int32) &&& 31).toUInt32).toInt32) &&& (3 : Int32))), .val (.int ((((p0).toUInt32 >>> ((4 : Int32) &&& 31).toUInt32).toInt32) &&& (1 : Int32))), .val (.double e0d), .second, .val (.double e1d), .second, .val (.double e2d), .second, .val (.ref b3), .val (.int (2 : Int32)), .val (.int (1 : Int32)), .unset] [])) (by intro t k; exact XS.istore X40.here hx rfl (hb hby at_116) rfl (l' := #[.val (.int p0), .val (.int p1), .val (.int p2), .val (.int p3), .val (.int (1 : Int32)), .val (.int (1 : Int32)), .val (.int ((((p0).toUInt32 >>> ((2 : Int32) &&& 31).toUInt32).toInt32) &&& (3 : Int32))), .val (.int ((((p0).toUInt32 >>> ((4 : Int32) &&& 31).toUInt32).toInt32) &&& (1 : Int32))), .val (.double e0d), .second, .val (.double e1d), .second, .val (.double e2d), .second, .val (.ref b3), .val (.int (2 : Int32)), .val (.int (1 : Int32)), .unset]) rfl k) ?_
              refine go (T' := T40) (f' := (mkF m 120 #[.val (.int p0), .val (.int p1), .val (.int p2), .val (.int p3), .val (.int (1 : Int32)), .val (.int (1 : Int32)), .val (.int ((((p0).toUInt32 >>> ((2 : Int32) &&& 31).toUInt32).toInt32) &&& (3 : Int32))), .val (.int ((((p0).toUInt32 >>> ((4 : Int32) &&& 31).toUInt32).toInt32) &&& (1 : Int32))), .val (.double e0d), .second, .val (.double e1d), .second, .val (.double e2d), .second, .val (.ref b3), .val (.int (2 : Int32)), .val (.int (1 : Int32)), .unset] [(.int (1 : Int32))])) (by intro t k; exact XS.iload X40.here hx rfl (hb hby at_118) rfl k) ?_
              refine go (T' := T40) (f' := (mkF m 121 #[.val (.int p0), .val (.int p1), .val (.int p2), .val (.int p3), .val (.int (1 : Int32)), .val (.int (1 : Int32)), .val (.int ((((p0).toUInt32 >>> ((2 : Int32) &&& 31).toUInt32).toInt32) &&& (3 : Int32))), .val (.int ((((p0).toUInt32 >>> ((4 : Int32) &&& 31).toUInt32).toInt32) &&& (1 : Int32))), .val (.double e0d), .second, .val (.double e1d), .second, .val (.double e2d), .second, .val (.ref b3), .val (.int (2 : Int32)), .val (.int (1 : Int32)), .unset] [(.int (1 : Int32)), (.int (1 : Int32))])) (by intro t k; exact XS.iconst X40.here hx rfl (hb hby at_120) k) ?_
              refine go (T' := T40) (f' := (mkF m 124 #[.val (.int p0), .val (.int p1), .val (.int p2), .val (.int p3), .val (.int (1 : Int32)), .val (.int (1 : Int32)), .val (.int ((((p0).toUInt32 >>> ((2 : Int32) &&& 31).toUInt32).toInt32) &&& (3 : Int32))), .val (.int ((((p0).toUInt32 >>> ((4 : Int32) &&& 31).toUInt32).toInt32) &&& (1 : Int32))), .val (.double e0d), .second, .val (.double e1d), .second, .val (.double e2d), .second, .val (.ref b3), .val (.int (2 : Int32)), .val (.int (1 : Int32)), .unset] [])) (by intro t k; exact XS.icmpNo X40.here hx rfl (hb hby at_121) rfl (flt (by decide : ¬ ((1 : Int32) < (1 : Int32)))).1 k) ?_
              refine go (T' := T40) (f' := (mkF m 126 #[.val (.int p0), .val (.int p1), .val (.int p2), .val (.int p3), .val (.int (1 : Int32)), .val (.int (1 : Int32)), .val (.int ((((p0).toUInt32 >>> ((2 : Int32) &&& 31).toUInt32).toInt32) &&& (3 : Int32))), .val (.int ((((p0).toUInt32 >>> ((4 : Int32) &&& 31).toUInt32).toInt32) &&& (1 : Int32))), .val (.double e0d), .second, .val (.double e1d), .second, .val (.double e2d), .second, .val (.ref b3), .val (.int (2 : Int32)), .val (.int (1 : Int32)), .unset] [(.ref b3)])) (by intro t k; exact XS.aload X40.here hx rfl (hb hby at_124) rfl rfl k) ?_
              obtain ⟨cq43, kq43, q43a, q43b, q43c⟩ := isOf hZ e40 E31
              obtain ⟨_, _, ⟨T43, Lz43, kz43, nz43⟩, -, X43, ⟨Lc43, hQ43, lz43, yz43, zz43⟩, st43⟩ := X40.virtualBack hx (y := mpoll) (z := mpoll) hown (mvT hZ (tw hw 57 rfl)) (mvT hZ (tw hw 58 rfl)) (notFace_of_selects (args := #[]) (mvT hZ (tw hw 60 rfl))) (mvT hZ (tw hw 60 rfl)) (mvT hZ (tw hw 59 rfl)) (by decide) (backOf (W := 0) (rm11t41 l Z aw hw [] b3 bh bd bp e0d e1d  T31.heap n0 Z31 ⟨E31, Fh31, Fd31, Fp31, Fs31, Ft31, Ah31, Ad31, Ap31, g031, gh31, gd31, gp31, n0h31, n0d31, n0p31, nhd31, nhp31, ndp31⟩) hZ (tw hw 61 rfl) (tw hw 2 rfl) (by decide) (by decide)) q43a q43c (g := (mkF m 126 #[.val (.int p0), .val (.int p1), .val (.int p2), .val (.int p3), .val (.int (1 : Int32)), .val (.int (1 : Int32)), .val (.int ((((p0).toUInt32 >>> ((2 : Int32) &&& 31).toUInt32).toInt32) &&& (3 : Int32))), .val (.int ((((p0).toUInt32 >>> ((4 : Int32) &&& 31).toUInt32).toInt32) &&& (1 : Int32))), .val (.double e0d), .second, .val (.double e1d), .second, .val (.double e2d), .second, .val (.ref b3), .val (.int (2 : Int32)), .val (.int (1 : Int32)), .unset] [(.ref b3)])) rfl (by rw [hml]; rfl) (Steps.refl _) (argsL := []) (rest := []) (lenOf pd_2829I rfl) rfl (by show 2 * 0 + _ ≤ _; exact Nat.le_of_eq rfl) (hb hby at_126) (fun _ _ => ⟨rfl, e40, (by decide : 4 + 0 ≤ _), (by decide : 11 + 0 ≤ _)⟩)
              dsimp only [Pt.U, Pt.locs, Pt.cells, Pt.slots] at X43 lz43 yz43 zz43 st43 hQ43
              subst lz43 yz43 zz43
              obtain ⟨rfl, N43q, K43, hD43⟩ := hQ43
              have E43_b3 := Exa.keep E31 K43
              have Z43 : n0 ≤ T43.heap.size := Nat.le_trans Z31 K43.1
              obtain ⟨E43, Fh43, Fd43, Fp43, Fs43, Ft43, Ah43, Ad43, Ap43, g043, gh43, gd43, gp43, n0h43, n0d43, n0p43, nhd43, nhp43, ndp43⟩ := hD43
              have N43 := Fr.app N40 N43q
              refine go (fun _ k => st43.trans k) ?_
              show Run _ _ _ _ _ _ _ T43 (mkF m 129 #[.val (.int p0), .val (.int p1), .val (.int p2), .val (.int p3), .val (.int (1 : Int32)), .val (.int (1 : Int32)), .val (.int ((((p0).toUInt32 >>> ((2 : Int32) &&& 31).toUInt32).toInt32) &&& (3 : Int32))), .val (.int ((((p0).toUInt32 >>> ((4 : Int32) &&& 31).toUInt32).toInt32) &&& (1 : Int32))), .val (.double e0d), .second, .val (.double e1d), .second, .val (.double e2d), .second, .val (.ref b3), .val (.int (2 : Int32)), .val (.int (1 : Int32)), .unset] [(.int (0 : Int32))])
              refine go (T' := T43) (f' := (mkF m 130 #[.val (.int p0), .val (.int p1), .val (.int p2), .val (.int p3), .val (.int (1 : Int32)), .val (.int (1 : Int32)), .val (.int ((((p0).toUInt32 >>> ((2 : Int32) &&& 31).toUInt32).toInt32) &&& (3 : Int32))), .val (.int ((((p0).toUInt32 >>> ((4 : Int32) &&& 31).toUInt32).toInt32) &&& (1 : Int32))), .val (.double e0d), .second, .val (.double e1d), .second, .val (.double e2d), .second, .val (.ref b3), .val (.int (2 : Int32)), .val (.int (1 : Int32)), .unset] [])) (by intro t k; exact XS.pop X43.here hx rfl (hb hby at_129) rfl rfl k) ?_
              refine go (T' := T43) (f' := (mkF m 132 #[.val (.int p0), .val (.int p1), .val (.int p2), .val (.int p3), .val (.int (1 : Int32)), .val (.int (1 : Int32)), .val (.int ((((p0).toUInt32 >>> ((2 : Int32) &&& 31).toUInt32).toInt32) &&& (3 : Int32))), .val (.int ((((p0).toUInt32 >>> ((4 : Int32) &&& 31).toUInt32).toInt32) &&& (1 : Int32))), .val (.double e0d), .second, .val (.double e1d), .second, .val (.double e2d), .second, .val (.ref b3), .val (.int (2 : Int32)), .val (.int (1 : Int32)), .unset] [(.int (1 : Int32))])) (by intro t k; exact XS.iload X43.here hx rfl (hb hby at_130) rfl k) ?_
              refine go (T' := T43) (f' := (mkF m 133 #[.val (.int p0), .val (.int p1), .val (.int p2), .val (.int p3), .val (.int (1 : Int32)), .val (.int (1 : Int32)), .val (.int ((((p0).toUInt32 >>> ((2 : Int32) &&& 31).toUInt32).toInt32) &&& (3 : Int32))), .val (.int ((((p0).toUInt32 >>> ((4 : Int32) &&& 31).toUInt32).toInt32) &&& (1 : Int32))), .val (.double e0d), .second, .val (.double e1d), .second, .val (.double e2d), .second, .val (.ref b3), .val (.int (2 : Int32)), .val (.int (1 : Int32)), .unset] [(.int (2 : Int32)), (.int (1 : Int32))])) (by intro t k; exact XS.iconst X43.here hx rfl (hb hby at_132) k) ?_
              refine go (T' := T43) (f' := (mkF m 142 #[.val (.int p0), .val (.int p1), .val (.int p2), .val (.int p3), .val (.int (1 : Int32)), .val (.int (1 : Int32)), .val (.int ((((p0).toUInt32 >>> ((2 : Int32) &&& 31).toUInt32).toInt32) &&& (3 : Int32))), .val (.int ((((p0).toUInt32 >>> ((4 : Int32) &&& 31).toUInt32).toInt32) &&& (1 : Int32))), .val (.double e0d), .second, .val (.double e1d), .second, .val (.double e2d), .second, .val (.ref b3), .val (.int (2 : Int32)), .val (.int (1 : Int32)), .unset] [])) (by intro t k; exact XS.icmpYes X43.here hx rfl (pc0 := 133) (pc' := 142) rfl (hb hby at_133) rfl (tlt (by decide : (1 : Int32) < (2 : Int32))).1 (by decide) (by decide) k) ?_
              refine go (T' := T43) (f' := (mkF m 144 #[.val (.int p0), .val (.int p1), .val (.int p2), .val (.int p3), .val (.int (1 : Int32)), .val (.int (1 : Int32)), .val (.int ((((p0).toUInt32 >>> ((2 : Int32) &&& 31).toUInt32).toInt32) &&& (3 : Int32))), .val (.int ((((p0).toUInt32 >>> ((4 : Int32) &&& 31).toUInt32).toInt32) &&& (1 : Int32))), .val (.double e0d), .second, .val (.double e1d), .second, .val (.double e2d), .second, .val (.ref b3), .val (.int (2 : Int32)), .val (.int (1 : Int32)), .unset] [(.ref b3)])) (by intro t k; exact XS.aload X43.here hx rfl (hb hby at_142) rfl rfl k) ?_
              obtain ⟨cq44, kq44, q44a, q44b, q44c⟩ := isOf hZ rfl E43
              obtain ⟨_, _, ⟨T44, Lz44, kz44, nz44⟩, -, X44, ⟨Lc44, hQ44, lz44, yz44, zz44⟩, st44⟩ := X43.virtualBack hx (y := mclear) (z := mclear) hown (mvT hZ (tw hw 25 rfl)) (mvT hZ (tw hw 26 rfl)) (notFace_of_selects (args := #[]) (mvT hZ (tw hw 28 rfl))) (mvT hZ (tw hw 28 rfl)) (mvT hZ (tw hw 27 rfl)) (by decide) (backOf (W := 0) (rm5t44 l Z aw hw [] b3 bh bd bp e0d e1d  T43.heap n0 Z43 ⟨E43, Fh43, Fd43, Fp43, Fs43, Ft43, Ah43, Ad43, Ap43, g043, gh43, gd43, gp43, n0h43, n0d43, n0p43, nhd43, nhp43, ndp43⟩) hZ (tw hw 29 rfl) (tw hw 2 rfl) (by decide) (by decide)) q44a q44c (g := (mkF m 144 #[.val (.int p0), .val (.int p1), .val (.int p2), .val (.int p3), .val (.int (1 : Int32)), .val (.int (1 : Int32)), .val (.int ((((p0).toUInt32 >>> ((2 : Int32) &&& 31).toUInt32).toInt32) &&& (3 : Int32))), .val (.int ((((p0).toUInt32 >>> ((4 : Int32) &&& 31).toUInt32).toInt32) &&& (1 : Int32))), .val (.double e0d), .second, .val (.double e1d), .second, .val (.double e2d), .second, .val (.ref b3), .val (.int (2 : Int32)), .val (.int (1 : Int32)), .unset] [(.ref b3)])) rfl (by rw [hml]; rfl) (Steps.refl _) (argsL := []) (rest := []) (lenOf pd_2829V rfl) rfl (by show 2 * 0 + _ ≤ _; exact Nat.le_of_eq rfl) (hb hby at_144) (fun _ _ => ⟨rfl, rfl, (by decide : 4 + 0 ≤ _), (by decide : 11 + 0 ≤ _)⟩)
              dsimp only [Pt.U, Pt.locs, Pt.cells, Pt.slots] at X44 lz44 yz44 zz44 st44 hQ44
              subst lz44 yz44 zz44
              obtain ⟨rfl, N44q, K44, hD44⟩ := hQ44
              have E44_b3 := Exa.keep E43 K44
              have Z44 : n0 ≤ T44.heap.size := Nat.le_trans Z43 K44.1
              obtain ⟨E44, Fh44, Fd44, Fp44, Fs44, Ft44, Ah44, Ad44, Ap44, g044, gh44, gd44, gp44, n0h44, n0d44, n0p44, nhd44, nhp44, ndp44⟩ := hD44
              have N44 := Fr.app N43 N44q
              refine go (fun _ k => st44.trans k) ?_
              show Run _ _ _ _ _ _ _ T44 (mkF m 147 #[.val (.int p0), .val (.int p1), .val (.int p2), .val (.int p3), .val (.int (1 : Int32)), .val (.int (1 : Int32)), .val (.int ((((p0).toUInt32 >>> ((2 : Int32) &&& 31).toUInt32).toInt32) &&& (3 : Int32))), .val (.int ((((p0).toUInt32 >>> ((4 : Int32) &&& 31).toUInt32).toInt32) &&& (1 : Int32))), .val (.double e0d), .second, .val (.double e1d), .second, .val (.double e2d), .second, .val (.ref b3), .val (.int (2 : Int32)), .val (.int (1 : Int32)), .unset] [])
              exact JC (1 : Int32) (0 : Int32) e0d e1d (.val (.int (1 : Int32))) (.val (.int (1 : Int32))) (.val (.int ((((p0).toUInt32 >>> ((2 : Int32) &&& 31).toUInt32).toInt32) &&& (3 : Int32)))) (.val (.int (2 : Int32))) (.val (.int (1 : Int32))) T44 T44.heap _ X44 rfl N44 Z44 ⟨E44, Fh44, Fd44, Fp44, Fs44, Ft44, Ah44, Ad44, Ap44, g044, gh44, gd44, gp44, n0h44, n0d44, n0p44, nhd44, nhp44, ndp44⟩
            · subst ez
              show Run _ _ _ _ _ _ _ T40 (mkF m 116 #[.val (.int p0), .val (.int p1), .val (.int p2), .val (.int p3), .val (.int (1 : Int32)), .val (.int (1 : Int32)), .val (.int ((((p0).toUInt32 >>> ((2 : Int32) &&& 31).toUInt32).toInt32) &&& (3 : Int32))), .val (.int ((((p0).toUInt32 >>> ((4 : Int32) &&& 31).toUInt32).toInt32) &&& (1 : Int32))), .val (.double e0d), .second, .val (.double e1d), .second, .val (.double e2d), .second, .val (.ref b3), .val (.int (2 : Int32)), .unset, .unset] [(.int (2 : Int32))])
              refine go (T' := T40) (f' := (mkF m 118 #[.val (.int p0), .val (.int p1), .val (.int p2), .val (.int p3), .val (.int (1 : Int32)), .val (.int (1 : Int32)), .val (.int ((((p0).toUInt32 >>> ((2 : Int32) &&& 31).toUInt32).toInt32) &&& (3 : Int32))), .val (.int ((((p0).toUInt32 >>> ((4 : Int32) &&& 31).toUInt32).toInt32) &&& (1 : Int32))), .val (.double e0d), .second, .val (.double e1d), .second, .val (.double e2d), .second, .val (.ref b3), .val (.int (2 : Int32)), .val (.int (2 : Int32)), .unset] [])) (by intro t k; exact XS.istore X40.here hx rfl (hb hby at_116) rfl (l' := #[.val (.int p0), .val (.int p1), .val (.int p2), .val (.int p3), .val (.int (1 : Int32)), .val (.int (1 : Int32)), .val (.int ((((p0).toUInt32 >>> ((2 : Int32) &&& 31).toUInt32).toInt32) &&& (3 : Int32))), .val (.int ((((p0).toUInt32 >>> ((4 : Int32) &&& 31).toUInt32).toInt32) &&& (1 : Int32))), .val (.double e0d), .second, .val (.double e1d), .second, .val (.double e2d), .second, .val (.ref b3), .val (.int (2 : Int32)), .val (.int (2 : Int32)), .unset]) rfl k) ?_
              refine go (T' := T40) (f' := (mkF m 120 #[.val (.int p0), .val (.int p1), .val (.int p2), .val (.int p3), .val (.int (1 : Int32)), .val (.int (1 : Int32)), .val (.int ((((p0).toUInt32 >>> ((2 : Int32) &&& 31).toUInt32).toInt32) &&& (3 : Int32))), .val (.int ((((p0).toUInt32 >>> ((4 : Int32) &&& 31).toUInt32).toInt32) &&& (1 : Int32))), .val (.double e0d), .second, .val (.double e1d), .second, .val (.double e2d), .second, .val (.ref b3), .val (.int (2 : Int32)), .val (.int (2 : Int32)), .unset] [(.int (2 : Int32))])) (by intro t k; exact XS.iload X40.here hx rfl (hb hby at_118) rfl k) ?_
              refine go (T' := T40) (f' := (mkF m 121 #[.val (.int p0), .val (.int p1), .val (.int p2), .val (.int p3), .val (.int (1 : Int32)), .val (.int (1 : Int32)), .val (.int ((((p0).toUInt32 >>> ((2 : Int32) &&& 31).toUInt32).toInt32) &&& (3 : Int32))), .val (.int ((((p0).toUInt32 >>> ((4 : Int32) &&& 31).toUInt32).toInt32) &&& (1 : Int32))), .val (.double e0d), .second, .val (.double e1d), .second, .val (.double e2d), .second, .val (.ref b3), .val (.int (2 : Int32)), .val (.int (2 : Int32)), .unset] [(.int (1 : Int32)), (.int (2 : Int32))])) (by intro t k; exact XS.iconst X40.here hx rfl (hb hby at_120) k) ?_
              refine go (T' := T40) (f' := (mkF m 124 #[.val (.int p0), .val (.int p1), .val (.int p2), .val (.int p3), .val (.int (1 : Int32)), .val (.int (1 : Int32)), .val (.int ((((p0).toUInt32 >>> ((2 : Int32) &&& 31).toUInt32).toInt32) &&& (3 : Int32))), .val (.int ((((p0).toUInt32 >>> ((4 : Int32) &&& 31).toUInt32).toInt32) &&& (1 : Int32))), .val (.double e0d), .second, .val (.double e1d), .second, .val (.double e2d), .second, .val (.ref b3), .val (.int (2 : Int32)), .val (.int (2 : Int32)), .unset] [])) (by intro t k; exact XS.icmpNo X40.here hx rfl (hb hby at_121) rfl (flt (by decide : ¬ ((2 : Int32) < (1 : Int32)))).1 k) ?_
              refine go (T' := T40) (f' := (mkF m 126 #[.val (.int p0), .val (.int p1), .val (.int p2), .val (.int p3), .val (.int (1 : Int32)), .val (.int (1 : Int32)), .val (.int ((((p0).toUInt32 >>> ((2 : Int32) &&& 31).toUInt32).toInt32) &&& (3 : Int32))), .val (.int ((((p0).toUInt32 >>> ((4 : Int32) &&& 31).toUInt32).toInt32) &&& (1 : Int32))), .val (.double e0d), .second, .val (.double e1d), .second, .val (.double e2d), .second, .val (.ref b3), .val (.int (2 : Int32)), .val (.int (2 : Int32)), .unset] [(.ref b3)])) (by intro t k; exact XS.aload X40.here hx rfl (hb hby at_124) rfl rfl k) ?_
              obtain ⟨cq45, kq45, q45a, q45b, q45c⟩ := isOf hZ e40 E31
              obtain ⟨_, _, ⟨T45, Lz45, kz45, nz45⟩, -, X45, ⟨Lc45, hQ45, lz45, yz45, zz45⟩, st45⟩ := X40.virtualBack hx (y := mpoll) (z := mpoll) hown (mvT hZ (tw hw 57 rfl)) (mvT hZ (tw hw 58 rfl)) (notFace_of_selects (args := #[]) (mvT hZ (tw hw 60 rfl))) (mvT hZ (tw hw 60 rfl)) (mvT hZ (tw hw 59 rfl)) (by decide) (backOf (W := 0) (rm11t41 l Z aw hw [] b3 bh bd bp e0d e1d  T31.heap n0 Z31 ⟨E31, Fh31, Fd31, Fp31, Fs31, Ft31, Ah31, Ad31, Ap31, g031, gh31, gd31, gp31, n0h31, n0d31, n0p31, nhd31, nhp31, ndp31⟩) hZ (tw hw 61 rfl) (tw hw 2 rfl) (by decide) (by decide)) q45a q45c (g := (mkF m 126 #[.val (.int p0), .val (.int p1), .val (.int p2), .val (.int p3), .val (.int (1 : Int32)), .val (.int (1 : Int32)), .val (.int ((((p0).toUInt32 >>> ((2 : Int32) &&& 31).toUInt32).toInt32) &&& (3 : Int32))), .val (.int ((((p0).toUInt32 >>> ((4 : Int32) &&& 31).toUInt32).toInt32) &&& (1 : Int32))), .val (.double e0d), .second, .val (.double e1d), .second, .val (.double e2d), .second, .val (.ref b3), .val (.int (2 : Int32)), .val (.int (2 : Int32)), .unset] [(.ref b3)])) rfl (by rw [hml]; rfl) (Steps.refl _) (argsL := []) (rest := []) (lenOf pd_2829I rfl) rfl (by show 2 * 0 + _ ≤ _; exact Nat.le_of_eq rfl) (hb hby at_126) (fun _ _ => ⟨rfl, e40, (by decide : 4 + 0 ≤ _), (by decide : 11 + 0 ≤ _)⟩)
              dsimp only [Pt.U, Pt.locs, Pt.cells, Pt.slots] at X45 lz45 yz45 zz45 st45 hQ45
              subst lz45 yz45 zz45
              obtain ⟨rfl, N45q, K45, hD45⟩ := hQ45
              have E45_b3 := Exa.keep E31 K45
              have Z45 : n0 ≤ T45.heap.size := Nat.le_trans Z31 K45.1
              obtain ⟨E45, Fh45, Fd45, Fp45, Fs45, Ft45, Ah45, Ad45, Ap45, g045, gh45, gd45, gp45, n0h45, n0d45, n0p45, nhd45, nhp45, ndp45⟩ := hD45
              have N45 := Fr.app N40 N45q
              refine go (fun _ k => st45.trans k) ?_
              show Run _ _ _ _ _ _ _ T45 (mkF m 129 #[.val (.int p0), .val (.int p1), .val (.int p2), .val (.int p3), .val (.int (1 : Int32)), .val (.int (1 : Int32)), .val (.int ((((p0).toUInt32 >>> ((2 : Int32) &&& 31).toUInt32).toInt32) &&& (3 : Int32))), .val (.int ((((p0).toUInt32 >>> ((4 : Int32) &&& 31).toUInt32).toInt32) &&& (1 : Int32))), .val (.double e0d), .second, .val (.double e1d), .second, .val (.double e2d), .second, .val (.ref b3), .val (.int (2 : Int32)), .val (.int (2 : Int32)), .unset] [(.int (0 : Int32))])
              refine go (T' := T45) (f' := (mkF m 130 #[.val (.int p0), .val (.int p1), .val (.int p2), .val (.int p3), .val (.int (1 : Int32)), .val (.int (1 : Int32)), .val (.int ((((p0).toUInt32 >>> ((2 : Int32) &&& 31).toUInt32).toInt32) &&& (3 : Int32))), .val (.int ((((p0).toUInt32 >>> ((4 : Int32) &&& 31).toUInt32).toInt32) &&& (1 : Int32))), .val (.double e0d), .second, .val (.double e1d), .second, .val (.double e2d), .second, .val (.ref b3), .val (.int (2 : Int32)), .val (.int (2 : Int32)), .unset] [])) (by intro t k; exact XS.pop X45.here hx rfl (hb hby at_129) rfl rfl k) ?_
              refine go (T' := T45) (f' := (mkF m 132 #[.val (.int p0), .val (.int p1), .val (.int p2), .val (.int p3), .val (.int (1 : Int32)), .val (.int (1 : Int32)), .val (.int ((((p0).toUInt32 >>> ((2 : Int32) &&& 31).toUInt32).toInt32) &&& (3 : Int32))), .val (.int ((((p0).toUInt32 >>> ((4 : Int32) &&& 31).toUInt32).toInt32) &&& (1 : Int32))), .val (.double e0d), .second, .val (.double e1d), .second, .val (.double e2d), .second, .val (.ref b3), .val (.int (2 : Int32)), .val (.int (2 : Int32)), .unset] [(.int (2 : Int32))])) (by intro t k; exact XS.iload X45.here hx rfl (hb hby at_130) rfl k) ?_
              refine go (T' := T45) (f' := (mkF m 133 #[.val (.int p0), .val (.int p1), .val (.int p2), .val (.int p3), .val (.int (1 : Int32)), .val (.int (1 : Int32)), .val (.int ((((p0).toUInt32 >>> ((2 : Int32) &&& 31).toUInt32).toInt32) &&& (3 : Int32))), .val (.int ((((p0).toUInt32 >>> ((4 : Int32) &&& 31).toUInt32).toInt32) &&& (1 : Int32))), .val (.double e0d), .second, .val (.double e1d), .second, .val (.double e2d), .second, .val (.ref b3), .val (.int (2 : Int32)), .val (.int (2 : Int32)), .unset] [(.int (2 : Int32)), (.int (2 : Int32))])) (by intro t k; exact XS.iconst X45.here hx rfl (hb hby at_132) k) ?_
              refine go (T' := T45) (f' := (mkF m 136 #[.val (.int p0), .val (.int p1), .val (.int p2), .val (.int p3), .val (.int (1 : Int32)), .val (.int (1 : Int32)), .val (.int ((((p0).toUInt32 >>> ((2 : Int32) &&& 31).toUInt32).toInt32) &&& (3 : Int32))), .val (.int ((((p0).toUInt32 >>> ((4 : Int32) &&& 31).toUInt32).toInt32) &&& (1 : Int32))), .val (.double e0d), .second, .val (.double e1d), .second, .val (.double e2d), .second, .val (.ref b3), .val (.int (2 : Int32)), .val (.int (2 : Int32)), .unset] [])) (by intro t k; exact XS.icmpNo X45.here hx rfl (hb hby at_133) rfl (flt (by decide : ¬ ((2 : Int32) < (2 : Int32)))).1 k) ?_
              refine go (T' := T45) (f' := (mkF m 138 #[.val (.int p0), .val (.int p1), .val (.int p2), .val (.int p3), .val (.int (1 : Int32)), .val (.int (1 : Int32)), .val (.int ((((p0).toUInt32 >>> ((2 : Int32) &&& 31).toUInt32).toInt32) &&& (3 : Int32))), .val (.int ((((p0).toUInt32 >>> ((4 : Int32) &&& 31).toUInt32).toInt32) &&& (1 : Int32))), .val (.double e0d), .second, .val (.double e1d), .second, .val (.double e2d), .second, .val (.ref b3), .val (.int (2 : Int32)), .val (.int (2 : Int32)), .unset] [(.ref b3)])) (by intro t k; exact XS.aload X45.here hx rfl (hb hby at_136) rfl rfl k) ?_
              obtain ⟨cq46, kq46, q46a, q46b, q46c⟩ := isOf hZ rfl E45
              obtain ⟨_, _, ⟨T46, Lz46, kz46, nz46⟩, -, X46, ⟨Lc46, hQ46, lz46, yz46, zz46⟩, st46⟩ := X45.virtualBack hx (y := mpoll) (z := mpoll) hown (mvT hZ (tw hw 57 rfl)) (mvT hZ (tw hw 58 rfl)) (notFace_of_selects (args := #[]) (mvT hZ (tw hw 60 rfl))) (mvT hZ (tw hw 60 rfl)) (mvT hZ (tw hw 59 rfl)) (by decide) (backOf (W := 0) (rm11t45 l Z aw hw [] b3 bh bd bp e0d e1d  T45.heap n0 Z45 ⟨E45, Fh45, Fd45, Fp45, Fs45, Ft45, Ah45, Ad45, Ap45, g045, gh45, gd45, gp45, n0h45, n0d45, n0p45, nhd45, nhp45, ndp45⟩) hZ (tw hw 61 rfl) (tw hw 2 rfl) (by decide) (by decide)) q46a q46c (g := (mkF m 138 #[.val (.int p0), .val (.int p1), .val (.int p2), .val (.int p3), .val (.int (1 : Int32)), .val (.int (1 : Int32)), .val (.int ((((p0).toUInt32 >>> ((2 : Int32) &&& 31).toUInt32).toInt32) &&& (3 : Int32))), .val (.int ((((p0).toUInt32 >>> ((4 : Int32) &&& 31).toUInt32).toInt32) &&& (1 : Int32))), .val (.double e0d), .second, .val (.double e1d), .second, .val (.double e2d), .second, .val (.ref b3), .val (.int (2 : Int32)), .val (.int (2 : Int32)), .unset] [(.ref b3)])) rfl (by rw [hml]; rfl) (Steps.refl _) (argsL := []) (rest := []) (lenOf pd_2829I rfl) rfl (by show 2 * 0 + _ ≤ _; exact Nat.le_of_eq rfl) (hb hby at_138) (fun _ _ => ⟨rfl, rfl, (by decide : 4 + 0 ≤ _), (by decide : 11 + 0 ≤ _)⟩)
              dsimp only [Pt.U, Pt.locs, Pt.cells, Pt.slots] at X46 lz46 yz46 zz46 st46 hQ46
              subst lz46 yz46 zz46
              obtain ⟨rfl, N46q, K46, hD46⟩ := hQ46
              have E46_b3 := Exa.keep E45 K46
              have Z46 : n0 ≤ T46.heap.size := Nat.le_trans Z45 K46.1
              obtain ⟨E46, Fh46, Fd46, Fp46, Fs46, Ft46, Ah46, Ad46, Ap46, g046, gh46, gd46, gp46, n0h46, n0d46, n0p46, nhd46, nhp46, ndp46⟩ := hD46
              have N46 := Fr.app N45 N46q
              refine go (fun _ k => st46.trans k) ?_
              show Run _ _ _ _ _ _ _ T46 (mkF m 141 #[.val (.int p0), .val (.int p1), .val (.int p2), .val (.int p3), .val (.int (1 : Int32)), .val (.int (1 : Int32)), .val (.int ((((p0).toUInt32 >>> ((2 : Int32) &&& 31).toUInt32).toInt32) &&& (3 : Int32))), .val (.int ((((p0).toUInt32 >>> ((4 : Int32) &&& 31).toUInt32).toInt32) &&& (1 : Int32))), .val (.double e0d), .second, .val (.double e1d), .second, .val (.double e2d), .second, .val (.ref b3), .val (.int (2 : Int32)), .val (.int (2 : Int32)), .unset] [(.int (1 : Int32))])
              refine go (T' := T46) (f' := (mkF m 142 #[.val (.int p0), .val (.int p1), .val (.int p2), .val (.int p3), .val (.int (1 : Int32)), .val (.int (1 : Int32)), .val (.int ((((p0).toUInt32 >>> ((2 : Int32) &&& 31).toUInt32).toInt32) &&& (3 : Int32))), .val (.int ((((p0).toUInt32 >>> ((4 : Int32) &&& 31).toUInt32).toInt32) &&& (1 : Int32))), .val (.double e0d), .second, .val (.double e1d), .second, .val (.double e2d), .second, .val (.ref b3), .val (.int (2 : Int32)), .val (.int (2 : Int32)), .unset] [])) (by intro t k; exact XS.pop X46.here hx rfl (hb hby at_141) rfl rfl k) ?_
              refine go (T' := T46) (f' := (mkF m 144 #[.val (.int p0), .val (.int p1), .val (.int p2), .val (.int p3), .val (.int (1 : Int32)), .val (.int (1 : Int32)), .val (.int ((((p0).toUInt32 >>> ((2 : Int32) &&& 31).toUInt32).toInt32) &&& (3 : Int32))), .val (.int ((((p0).toUInt32 >>> ((4 : Int32) &&& 31).toUInt32).toInt32) &&& (1 : Int32))), .val (.double e0d), .second, .val (.double e1d), .second, .val (.double e2d), .second, .val (.ref b3), .val (.int (2 : Int32)), .val (.int (2 : Int32)), .unset] [(.ref b3)])) (by intro t k; exact XS.aload X46.here hx rfl (hb hby at_142) rfl rfl k) ?_
              obtain ⟨cq47, kq47, q47a, q47b, q47c⟩ := isOf hZ rfl E46
              obtain ⟨_, _, ⟨T47, Lz47, kz47, nz47⟩, -, X47, ⟨Lc47, hQ47, lz47, yz47, zz47⟩, st47⟩ := X46.virtualBack hx (y := mclear) (z := mclear) hown (mvT hZ (tw hw 25 rfl)) (mvT hZ (tw hw 26 rfl)) (notFace_of_selects (args := #[]) (mvT hZ (tw hw 28 rfl))) (mvT hZ (tw hw 28 rfl)) (mvT hZ (tw hw 27 rfl)) (by decide) (backOf (W := 0) (rm5t46 l Z aw hw [] b3 bh bd bp e0d e1d  T46.heap n0 Z46 ⟨E46, Fh46, Fd46, Fp46, Fs46, Ft46, Ah46, Ad46, Ap46, g046, gh46, gd46, gp46, n0h46, n0d46, n0p46, nhd46, nhp46, ndp46⟩) hZ (tw hw 29 rfl) (tw hw 2 rfl) (by decide) (by decide)) q47a q47c (g := (mkF m 144 #[.val (.int p0), .val (.int p1), .val (.int p2), .val (.int p3), .val (.int (1 : Int32)), .val (.int (1 : Int32)), .val (.int ((((p0).toUInt32 >>> ((2 : Int32) &&& 31).toUInt32).toInt32) &&& (3 : Int32))), .val (.int ((((p0).toUInt32 >>> ((4 : Int32) &&& 31).toUInt32).toInt32) &&& (1 : Int32))), .val (.double e0d), .second, .val (.double e1d), .second, .val (.double e2d), .second, .val (.ref b3), .val (.int (2 : Int32)), .val (.int (2 : Int32)), .unset] [(.ref b3)])) rfl (by rw [hml]; rfl) (Steps.refl _) (argsL := []) (rest := []) (lenOf pd_2829V rfl) rfl (by show 2 * 0 + _ ≤ _; exact Nat.le_of_eq rfl) (hb hby at_144) (fun _ _ => ⟨rfl, rfl, (by decide : 4 + 0 ≤ _), (by decide : 11 + 0 ≤ _)⟩)
              dsimp only [Pt.U, Pt.locs, Pt.cells, Pt.slots] at X47 lz47 yz47 zz47 st47 hQ47
              subst lz47 yz47 zz47
              obtain ⟨rfl, N47q, K47, hD47⟩ := hQ47
              have E47_b3 := Exa.keep E46 K47
              have Z47 : n0 ≤ T47.heap.size := Nat.le_trans Z46 K47.1
              obtain ⟨E47, Fh47, Fd47, Fp47, Fs47, Ft47, Ah47, Ad47, Ap47, g047, gh47, gd47, gp47, n0h47, n0d47, n0p47, nhd47, nhp47, ndp47⟩ := hD47
              have N47 := Fr.app N46 N47q
              refine go (fun _ k => st47.trans k) ?_
              show Run _ _ _ _ _ _ _ T47 (mkF m 147 #[.val (.int p0), .val (.int p1), .val (.int p2), .val (.int p3), .val (.int (1 : Int32)), .val (.int (1 : Int32)), .val (.int ((((p0).toUInt32 >>> ((2 : Int32) &&& 31).toUInt32).toInt32) &&& (3 : Int32))), .val (.int ((((p0).toUInt32 >>> ((4 : Int32) &&& 31).toUInt32).toInt32) &&& (1 : Int32))), .val (.double e0d), .second, .val (.double e1d), .second, .val (.double e2d), .second, .val (.ref b3), .val (.int (2 : Int32)), .val (.int (2 : Int32)), .unset] [])
              exact JC (1 : Int32) (0 : Int32) e0d e1d (.val (.int (1 : Int32))) (.val (.int (1 : Int32))) (.val (.int ((((p0).toUInt32 >>> ((2 : Int32) &&& 31).toUInt32).toInt32) &&& (3 : Int32)))) (.val (.int (2 : Int32))) (.val (.int (2 : Int32))) T47 T47.heap _ X47 rfl N47 Z47 ⟨E47, Fh47, Fd47, Fp47, Fs47, Ft47, Ah47, Ad47, Ap47, g047, gh47, gd47, gp47, n0h47, n0d47, n0p47, nhd47, nhp47, ndp47⟩
    show Run _ _ _ _ _ _ _ s₁ (mkF m 16 #[.val (.int p0), .val (.int p1), .val (.int p2), .val (.int p3), .val (.int z1), .unset, .unset, .unset, .unset, .unset, .unset, .unset, .unset, .unset, .unset, .unset, .unset, .unset] [(.int (p0 &&& (2 : Int32)))])
    by_cases hc16 : (p0 &&& (2 : Int32)) = (0 : Int32)
    · refine go (T' := s₁) (f' := (mkF m 23 #[.val (.int p0), .val (.int p1), .val (.int p2), .val (.int p3), .val (.int z1), .unset, .unset, .unset, .unset, .unset, .unset, .unset, .unset, .unset, .unset, .unset, .unset, .unset] [])) (by intro t k; exact XS.ifYes X0.here hx rfl (pc0 := 16) (pc' := 23) rfl (hb hby at_16) rfl ((if0 _ _).trans (teq hc16).1) (by decide) (by decide) k) ?_
      refine go (T' := s₁) (f' := (mkF m 24 #[.val (.int p0), .val (.int p1), .val (.int p2), .val (.int p3), .val (.int z1), .unset, .unset, .unset, .unset, .unset, .unset, .unset, .unset, .unset, .unset, .unset, .unset, .unset] [(.int (0 : Int32))])) (by intro t k; exact XS.iconst X0.here hx rfl (hb hby at_23) k) ?_
      have ez2 : z2 = (0 : Int32) := (hz2).trans (if_pos hc16)
      subst ez2
      exact J16
    · refine go (T' := s₁) (f' := (mkF m 19 #[.val (.int p0), .val (.int p1), .val (.int p2), .val (.int p3), .val (.int z1), .unset, .unset, .unset, .unset, .unset, .unset, .unset, .unset, .unset, .unset, .unset, .unset, .unset] [])) (by intro t k; exact XS.ifNo X0.here hx rfl (hb hby at_16) rfl ((if0 _ _).trans (feq hc16).1) k) ?_
      refine go (T' := s₁) (f' := (mkF m 20 #[.val (.int p0), .val (.int p1), .val (.int p2), .val (.int p3), .val (.int z1), .unset, .unset, .unset, .unset, .unset, .unset, .unset, .unset, .unset, .unset, .unset, .unset, .unset] [(.int (1 : Int32))])) (by intro t k; exact XS.iconst X0.here hx rfl (hb hby at_19) k) ?_
      refine go (T' := s₁) (f' := (mkF m 24 #[.val (.int p0), .val (.int p1), .val (.int p2), .val (.int p3), .val (.int z1), .unset, .unset, .unset, .unset, .unset, .unset, .unset, .unset, .unset, .unset, .unset, .unset, .unset] [(.int (1 : Int32))])) (by intro t k; exact XS.goto X0.here hx rfl (pc0 := 20) (pc' := 24) rfl (hb hby at_20) (by decide) (by decide) k) ?_
      have ez2 : z2 = (1 : Int32) := (hz2).trans (if_neg hc16)
      subst ez2
      exact J16
  show Run _ _ _ _ _ _ _ s₁ (mkF m 3 #[.val (.int p0), .val (.int p1), .val (.int p2), .val (.int p3), .unset, .unset, .unset, .unset, .unset, .unset, .unset, .unset, .unset, .unset, .unset, .unset, .unset, .unset] [(.int (p0 &&& (1 : Int32)))])
  by_cases hc3 : (p0 &&& (1 : Int32)) = (0 : Int32)
  · refine go (T' := s₁) (f' := (mkF m 10 #[.val (.int p0), .val (.int p1), .val (.int p2), .val (.int p3), .unset, .unset, .unset, .unset, .unset, .unset, .unset, .unset, .unset, .unset, .unset, .unset, .unset, .unset] [])) (by intro t k; exact XS.ifYes X0.here hx rfl (pc0 := 3) (pc' := 10) rfl (hb hby at_3) rfl ((if0 _ _).trans (teq hc3).1) (by decide) (by decide) k) ?_
    refine go (T' := s₁) (f' := (mkF m 11 #[.val (.int p0), .val (.int p1), .val (.int p2), .val (.int p3), .unset, .unset, .unset, .unset, .unset, .unset, .unset, .unset, .unset, .unset, .unset, .unset, .unset, .unset] [(.int (0 : Int32))])) (by intro t k; exact XS.iconst X0.here hx rfl (hb hby at_10) k) ?_
    have ez1 : z1 = (0 : Int32) := (hz1).trans (if_pos hc3)
    subst ez1
    exact J3
  · refine go (T' := s₁) (f' := (mkF m 6 #[.val (.int p0), .val (.int p1), .val (.int p2), .val (.int p3), .unset, .unset, .unset, .unset, .unset, .unset, .unset, .unset, .unset, .unset, .unset, .unset, .unset, .unset] [])) (by intro t k; exact XS.ifNo X0.here hx rfl (hb hby at_3) rfl ((if0 _ _).trans (feq hc3).1) k) ?_
    refine go (T' := s₁) (f' := (mkF m 7 #[.val (.int p0), .val (.int p1), .val (.int p2), .val (.int p3), .unset, .unset, .unset, .unset, .unset, .unset, .unset, .unset, .unset, .unset, .unset, .unset, .unset, .unset] [(.int (1 : Int32))])) (by intro t k; exact XS.iconst X0.here hx rfl (hb hby at_6) k) ?_
    refine go (T' := s₁) (f' := (mkF m 11 #[.val (.int p0), .val (.int p1), .val (.int p2), .val (.int p3), .unset, .unset, .unset, .unset, .unset, .unset, .unset, .unset, .unset, .unset, .unset, .unset, .unset, .unset] [(.int (1 : Int32))])) (by intro t k; exact XS.goto X0.here hx rfl (pc0 := 7) (pc' := 11) rfl (hb hby at_7) (by decide) (by decide) k) ?_
    have ez1 : z1 = (1 : Int32) := (hz1).trans (if_neg hc3)
    subst ez1
    exact J3
set_option maxRecDepth 65536 in
set_option maxHeartbeats 40000000 in
theorem comes_1 {Post : Tables → Env → Array Value → State → Outcome → State → Prop} (hpost : ∀ tb e args s v u, (limb_1_1.after args s (.returned v) u = true ∧ limb_1_2.after args s (.returned v) u = true ∧ True) → FrameEnd s (.returned v) u (Jvm.fieldLocs frame_1_writes args s ++ Jvm.arrayLocs frame_1_arrays args s ++ Jvm.staticLocs frame_1_statics s) 16 128 → Post tb e args s (.returned v) u) :
    ArmFor flags0 classFile x code maxLocals ret World_1 tables_1 room_1 Calls_1 rest_1 Pre_1 Post := by
  intro l hfl _ _ p e ha hc hk s m args below hf hA hF happ hP
  obtain ⟨hcalls, hrest, hpre⟩ := hP
  obtain ⟨-, -, -, hnamed, -, -, -, hat⟩ := (Spec.applies_iff hf).mp happ
  obtain ⟨hg, hn⟩ := and_e (Cond.before_iff.mp (show (Jvm.Cond.and given_1 narrow_1).before args s = true from hpre))
  obtain ⟨g1, g2⟩ := and_e hg
  obtain ⟨g3, g4⟩ := and_e g2
  obtain ⟨g5, g6⟩ := and_e g4
  obtain ⟨g7, g8⟩ := and_e g6
  obtain ⟨w0, w1, w2, w3, rfl⟩ : ∃ w0 w1 w2 w3 : Value, args = #[w0, w1, w2, w3] := by
    have hs : args.size = 4 := by simpa [Cond.value, given_1] using g1
    obtain ⟨L⟩ := args
    match L, hs with
    | [w0, w1, w2, w3], _ => exact ⟨w0, w1, w2, w3, rfl⟩
  have hw := fun d (hd : d ∈ tables_1) => atoms_spec (ws := Jvm.Cond.code x code maxLocals ret :: tables_1) hat d (List.mem_cons_of_mem _ hd)
  have hfit : Fit s := fun {y c} hc i hi => by
    obtain ⟨ha, rfl⟩ := Array.getElem?_eq_some_iff.mp hc
    have q := List.all_eq_true.mp ((Array.all_eq_true_iff_forall_mem.mp hF) _ (Array.getElem_mem ha)) i (List.mem_range.mpr hi)
    simpa [Array.getElem?_eq_getElem hi] using q
  obtain ⟨i0, ei0⟩ := is_v g3
  obtain rfl : w0 = (.int i0) := Option.some.inj ei0
  obtain ⟨i1, ei1⟩ := is_v g5
  obtain rfl : w1 = (.int i1) := Option.some.inj ei1
  obtain ⟨i2, ei2⟩ := is_v g7
  obtain rfl : w2 = (.int i2) := Option.some.inj ei2
  obtain ⟨i3, ei3⟩ := is_v g8
  obtain rfl : w3 = (.int i3) := Option.some.inj ei3
  obtain ⟨n, o, h1, h2, h3, _, L, rfl, ⟨rfl, N⟩, hq⟩ := rm0 l s _ hw tables_1 i0 i1 i2 i3 s.heap s.heap.size (Nat.le_refl _) p e ha hc hk s m _ below hf ((Spec.applies_iff_loose hf).mp happ).1 ⟨rfl, State.Warmed39.refl s, rfl⟩ trivial
  refine ⟨n, _, h1, h2, h3, hpost _ _ _ _ _ _ ⟨Cond.after_iff.mpr rfl, Cond.after_iff.mpr (eq_i res_at (Term.int_eval (1)) rfl), trivial⟩ ⟨hq.1, hq.2.1, (hq.2.2.sift fun y hy => Or.inr (N y hy)).mono (by decide) (by decide)⟩⟩
theorem main_1_1 : Claimed_1_1 := comes_1 fun _ _ _ _ _ _ h hF => ⟨h.1, hF⟩
theorem main_1_2 : Claimed_1_2 := comes_1 fun _ _ _ _ _ _ h hF => ⟨h.2.1, hF⟩
end Jvm.Pilot.@@N@@
namespace Jvm.Pilot.@@N@@
open Jvm Jvm.ClassFile Sem Op Lib Jvm.Free Jvm.Stand Jvm.Pilot.@@N@@.Jvm.D
/-! MADE BY PROGRAM (witnessworld.py) out of the Statement's table words and the real class files: 11 classes; the members and pool entries that the words name. The judged class is class 1, her method 1. -/
namespace start1
open Jvm.ClassFile
def u (s : String) : CpInfo := .utf8 (stringToUtf16 s)
/-- a pool by its gaps: so many unusable entries, then the entry; so many at the end -/
def gap : Nat → List CpInfo → List CpInfo
  | 0, r => r
  | n + 1, r => .unusable :: gap n r
def poolList (es : List (Nat × CpInfo)) (last : Nat) : List CpInfo := es.foldr (fun e r => gap e.1 (e.2 :: r)) (gap last [])
def pool (es : List (Nat × CpInfo)) (last : Nat) : Array CpInfo := ⟨poolList es last⟩
def fileOf (pool : Array CpInfo) (this : Nat) (attrs : Array Attribute := #[]) (ms : Array MethodInfo := #[]) (fl : Nat := 33) (sup : Nat := 0) (ifs : Array Nat := #[]) (fds : Array FieldInfo := #[]) : ClassFile where
  minorVersion := 0
  majorVersion := 65
  constantPool := pool
  accessFlags := fl
  thisClass := this
  superClass := sup
  interfaces := ifs
  fields := fds
  methods := ms
  attributes := attrs
def plain (name : String) (sup : Option ClassId) : Class where
  name := name
  kind := .ordinary
  loader := none
  accessFlags := 33
  super := sup
  interfaces := #[]
  cf := none
  fields := #[]
  methods := #[]
  instanceTypes := #[]
  staticTypes := #[]
  resolved := #[]
  callSites := []
  init := .initialized
  statics := none
  mirror := none

def pool0 : Array CpInfo := pool [(5, u "<init>"), (0, u "()V"), (1, .class_ 10), (1, u "java/lang/Object")] 113

def k0c0 : Code := { maxStack := 0, maxLocals := 1, code := object_method_1_code, exceptionTable := #[], attributes := #[] }
def k0m0 : Method := { name := "<init>", desc := "()V", sig := { parameters := [], returnType := none }, accessFlags := 1, code := some k0c0 }
/-- java/lang/Object -/
def k0 : Class := { plain "java/lang/Object" none with
  accessFlags := 33
  interfaces := #[]
  cf := some (fileOf pool0 8 #[] #[{ accessFlags := 1, nameIndex := 5, descriptorIndex := 6, attributes := #[] }] 33 0 #[] #[])
  fields := #[]
  methods := #[k0m0]
  instanceTypes := #[]
  staticTypes := #[]
  resolved := Array.replicate 124 none
  statics := none }

def pool1 : Array CpInfo := pool [(2, .class_ 4), (1, u "java/lang/Object"), (0, u "<init>"), (0, u "()V"), (0, .class_ 8), (0, u "com/example/wayshard/wayshard/service/VertexQueue"), (0, .methodref 7 10), (0, .nameAndType 5 11), (0, u "(I)V"), (0, .methodref 7 13), (0, .nameAndType 14 15), (0, u "offer"), (0, u "(ID)V"), (0, .methodref 17 18), (0, .class_ 19), (0, .nameAndType 20 21), (0, u "java/lang/Math"), (0, u "min"), (0, u "(II)I"), (0, .methodref 7 23), (0, .nameAndType 24 25), (0, u "poll"), (0, u "()I"), (0, .methodref 7 27), (0, .nameAndType 28 6), (0, u "clear"), (0, .methodref 7 30), (0, .nameAndType 31 32), (0, u "isEmpty"), (0, u "()Z"), (0, .methodref 7 34), (0, .nameAndType 35 36), (0, u "isTaken"), (0, u "(I)Z"), (0, .class_ 38), (0, u "com/example/wayshard/wayshard/service/VertexQueueClearPinLaw"), (2, u "law"), (0, u "(IIII)Z")] 3

def k1m0 : Method := { name := "<init>", desc := "()V", sig := { parameters := [], returnType := none }, accessFlags := 1, code := none }
def k1c1 : Code := { maxStack := 4, maxLocals := 18, code := code, exceptionTable := #[], attributes := #[] }
def k1m1 : Method := { name := "law", desc := "(IIII)Z", sig := { parameters := [.int, .int, .int, .int], returnType := some .boolean }, accessFlags := 9, code := some k1c1 }
/-- com/example/wayshard/wayshard/service/VertexQueueClearPinLaw -/
def k1 : Class := { plain "com/example/wayshard/wayshard/service/VertexQueueClearPinLaw" (some 0) with
  accessFlags := 49
  interfaces := #[]
  cf := some (fileOf pool1 37 #[] #[{ accessFlags := 1, nameIndex := 5, descriptorIndex := 6, attributes := #[] }, { accessFlags := 9, nameIndex := 41, descriptorIndex := 42, attributes := #[] }] 49 2 #[] #[])
  fields := #[]
  methods := #[k1m0, k1m1]
  instanceTypes := #[]
  staticTypes := #[]
  resolved := Array.replicate 46 none
  statics := none }

def pool2 : Array CpInfo := pool [(1, .methodref 2 3), (0, .class_ 4), (0, .nameAndType 5 6), (0, u "java/lang/Object"), (0, u "<init>"), (0, u "()V"), (0, .fieldref 8 9), (0, .class_ 10), (0, .nameAndType 11 12), (0, u "com/example/wayshard/wayshard/service/VertexQueue"), (0, u "heap"), (0, u "[I"), (0, .fieldref 8 14), (0, .nameAndType 15 16), (0, u "priorities"), (0, u "[D"), (0, .fieldref 8 18), (0, .nameAndType 19 12), (0, u "places"), (0, .methodref 21 22), (0, .class_ 23), (0, .nameAndType 24 25), (0, u "java/util/Arrays"), (0, u "fill"), (0, u "([II)V"), (0, .fieldref 8 27), (0, .nameAndType 28 29), (0, u "size"), (0, u "I"), (0, .fieldref 8 31), (0, .nameAndType 32 29), (0, u "taken"), (0, .methodref 8 34), (0, .nameAndType 35 36), (0, u "siftUp"), (0, u "(I)V"), (3, .methodref 8 41), (0, .nameAndType 42 36), (0, u "siftDown"), (0, .methodref 8 44), (0, .nameAndType 45 46), (0, u "move"), (0, u "(II)V"), (0, u "NEVER_QUEUED"), (2, u "TAKEN"), (3, u "isEmpty"), (0, u "()Z"), (1, u "clear"), (0, u "isTaken"), (0, u "(I)Z"), (0, u "offer"), (0, u "(ID)V"), (0, u "poll"), (0, u "()I")] 2

def k2c0 : Code := { maxStack := 2, maxLocals := 2, code := prog_64_method_1_code, exceptionTable := #[], attributes := #[] }
def k2m0 : Method := { name := "<init>", desc := "(I)V", sig := { parameters := [.int], returnType := none }, accessFlags := 0, code := some k2c0 }
def k2c1 : Code := { maxStack := 1, maxLocals := 1, code := prog_64_method_2_code, exceptionTable := #[], attributes := #[] }
def k2m1 : Method := { name := "isEmpty", desc := "()Z", sig := { parameters := [], returnType := some .boolean }, accessFlags := 0, code := some k2c1 }
def k2c2 : Code := { maxStack := 3, maxLocals := 2, code := prog_64_method_3_code, exceptionTable := #[], attributes := #[] }
def k2m2 : Method := { name := "clear", desc := "()V", sig := { parameters := [], returnType := none }, accessFlags := 0, code := some k2c2 }
def k2c3 : Code := { maxStack := 2, maxLocals := 2, code := prog_64_method_4_code, exceptionTable := #[], attributes := #[] }
def k2m3 : Method := { name := "isTaken", desc := "(I)Z", sig := { parameters := [.int], returnType := some .boolean }, accessFlags := 0, code := some k2c3 }
def k2c4 : Code := { maxStack := 5, maxLocals := 5, code := prog_64_method_5_code, exceptionTable := #[], attributes := #[] }
def k2m4 : Method := { name := "offer", desc := "(ID)V", sig := { parameters := [.int, .double], returnType := none }, accessFlags := 0, code := some k2c4 }
def k2c5 : Code := { maxStack := 4, maxLocals := 2, code := prog_64_method_6_code, exceptionTable := #[], attributes := #[] }
def k2m5 : Method := { name := "poll", desc := "()I", sig := { parameters := [], returnType := some .int }, accessFlags := 0, code := some k2c5 }
def k2c6 : Code := { maxStack := 4, maxLocals := 5, code := prog_64_method_7_code, exceptionTable := #[], attributes := #[] }
def k2m6 : Method := { name := "siftUp", desc := "(I)V", sig := { parameters := [.int], returnType := none }, accessFlags := 2, code := some k2c6 }
def k2c7 : Code := { maxStack := 5, maxLocals := 5, code := prog_64_method_8_code, exceptionTable := #[], attributes := #[] }
def k2m7 : Method := { name := "siftDown", desc := "(I)V", sig := { parameters := [.int], returnType := none }, accessFlags := 2, code := some k2c7 }
def k2c8 : Code := { maxStack := 3, maxLocals := 3, code := prog_64_method_9_code, exceptionTable := #[], attributes := #[] }
def k2m8 : Method := { name := "move", desc := "(II)V", sig := { parameters := [.int, .int], returnType := none }, accessFlags := 2, code := some k2c8 }
/-- com/example/wayshard/wayshard/service/VertexQueue -/
def k2 : Class := { plain "com/example/wayshard/wayshard/service/VertexQueue" (some 0) with
  accessFlags := 48
  interfaces := #[]
  cf := some (fileOf pool2 8 #[] #[{ accessFlags := 0, nameIndex := 5, descriptorIndex := 36, attributes := #[] }, { accessFlags := 0, nameIndex := 54, descriptorIndex := 55, attributes := #[] }, { accessFlags := 0, nameIndex := 57, descriptorIndex := 6, attributes := #[] }, { accessFlags := 0, nameIndex := 58, descriptorIndex := 59, attributes := #[] }, { accessFlags := 0, nameIndex := 60, descriptorIndex := 61, attributes := #[] }, { accessFlags := 0, nameIndex := 62, descriptorIndex := 63, attributes := #[] }, { accessFlags := 2, nameIndex := 35, descriptorIndex := 36, attributes := #[] }, { accessFlags := 2, nameIndex := 42, descriptorIndex := 36, attributes := #[] }, { accessFlags := 2, nameIndex := 45, descriptorIndex := 46, attributes := #[] }] 48 2 #[] #[{ accessFlags := 26, nameIndex := 47, descriptorIndex := 29, attributes := #[] }, { accessFlags := 26, nameIndex := 50, descriptorIndex := 29, attributes := #[] }, { accessFlags := 18, nameIndex := 11, descriptorIndex := 12, attributes := #[] }, { accessFlags := 18, nameIndex := 15, descriptorIndex := 16, attributes := #[] }, { accessFlags := 18, nameIndex := 19, descriptorIndex := 12, attributes := #[] }, { accessFlags := 2, nameIndex := 28, descriptorIndex := 29, attributes := #[] }, { accessFlags := 2, nameIndex := 32, descriptorIndex := 29, attributes := #[] }])
  fields := #[{ name := "NEVER_QUEUED", type := .int, accessFlags := 26, slot := 0, constantValue := 0 }, { name := "TAKEN", type := .int, accessFlags := 26, slot := 1, constantValue := 0 }, { name := "heap", type := (.array .int), accessFlags := 18, slot := 0, constantValue := 0 }, { name := "priorities", type := (.array .double), accessFlags := 18, slot := 1, constantValue := 0 }, { name := "places", type := (.array .int), accessFlags := 18, slot := 2, constantValue := 0 }, { name := "size", type := .int, accessFlags := 2, slot := 3, constantValue := 0 }, { name := "taken", type := .int, accessFlags := 2, slot := 4, constantValue := 0 }]
  methods := #[k2m0, k2m1, k2m2, k2m3, k2m4, k2m5, k2m6, k2m7, k2m8]
  instanceTypes := #[(.array .int), (.array .double), (.array .int), .int, .int]
  staticTypes := #[.int, .int]
  resolved := Array.replicate 66 none
  statics := none }

def pool3 : Array CpInfo := pool [(2, .class_ 4), (1, u "java/lang/Object"), (0, u "<init>"), (0, u "()V"), (7, .class_ 16), (1, u "java/util/Arrays"), (57, .class_ 76), (1, u "java/util/Arrays$NaturalOrder"), (36, .class_ 115), (1, u "java/util/Arrays$LegacyMergeSort"), (1, u "Z"), (257, .class_ 376), (0, u "java/util/Arrays$ArrayList"), (68, u "$assertionsDisabled"), (269, u "MIN_ARRAY_SORT_GRAN"), (0, u "I"), (2, u "INSERTIONSORT_THRESHOLD"), (120, u "fill"), (4, u "([II)V"), (129, .class_ 976), (0, u "java/util/Arrays$ArrayItr")] 52

def k3m0 : Method := { name := "<init>", desc := "()V", sig := { parameters := [], returnType := none }, accessFlags := 2, code := none }
def k3c1 : Code := { maxStack := 3, maxLocals := 4, code := jdk_65_method_103_code, exceptionTable := #[], attributes := #[] }
def k3m1 : Method := { name := "fill", desc := "([II)V", sig := { parameters := [(.array .int), .int], returnType := none }, accessFlags := 9, code := some k3c1 }
/-- java/util/Arrays -/
def k3 : Class := { plain "java/util/Arrays" (some 0) with
  accessFlags := 49
  interfaces := #[]
  cf := some (fileOf pool3 14 #[.nestMembers #[975, 375, 113, 74]] #[{ accessFlags := 2, nameIndex := 5, descriptorIndex := 6, attributes := #[] }, { accessFlags := 9, nameIndex := 840, descriptorIndex := 845, attributes := #[] }] 49 2 #[] #[{ accessFlags := 26, nameIndex := 715, descriptorIndex := 716, attributes := #[] }, { accessFlags := 26, nameIndex := 719, descriptorIndex := 716, attributes := #[] }, { accessFlags := 4120, nameIndex := 445, descriptorIndex := 117, attributes := #[] }])
  fields := #[{ name := "MIN_ARRAY_SORT_GRAN", type := .int, accessFlags := 26, slot := 0, constantValue := 0 }, { name := "INSERTIONSORT_THRESHOLD", type := .int, accessFlags := 26, slot := 1, constantValue := 0 }, { name := "$assertionsDisabled", type := .boolean, accessFlags := 4120, slot := 2, constantValue := 0 }]
  methods := #[k3m0, k3m1]
  instanceTypes := #[]
  staticTypes := #[.int, .int, .boolean]
  resolved := Array.replicate 1029 none
  statics := none }

def pool4 : Array CpInfo := pool [(1, .class_ 2), (0, u "java/lang/Math"), (1, .class_ 6), (1, u "java/lang/Object"), (0, u "<init>"), (0, u "()V"), (89, .class_ 100), (1, u "java/lang/Math$RandomNumberGeneratorHolder"), (71, u "negativeZeroFloatBits"), (0, u "J"), (2, u "negativeZeroDoubleBits"), (24, u "min"), (43, u "$assertionsDisabled"), (0, u "Z"), (88, u "(II)I"), (2, u "twoToTheDoubleScaleDown"), (0, u "D"), (4, u "twoToTheDoubleScaleUp"), (9, u "E"), (3, u "PI"), (2, u "TAU"), (2, u "DEGREES_TO_RADIANS"), (0, u "RADIANS_TO_DEGREES")] 94

def k4m0 : Method := { name := "<init>", desc := "()V", sig := { parameters := [], returnType := none }, accessFlags := 2, code := none }
def k4c1 : Code := { maxStack := 2, maxLocals := 2, code := jdk_29_method_69_code, exceptionTable := #[], attributes := #[] }
def k4m1 : Method := { name := "min", desc := "(II)I", sig := { parameters := [.int, .int], returnType := some .int }, accessFlags := 9, code := some k4c1 }
/-- java/lang/Math -/
def k4 : Class := { plain "java/lang/Math" (some 0) with
  accessFlags := 49
  interfaces := #[]
  cf := some (fileOf pool4 1 #[.nestMembers #[98]] #[{ accessFlags := 2, nameIndex := 7, descriptorIndex := 8, attributes := #[] }, { accessFlags := 9, nameIndex := 201, descriptorIndex := 335, attributes := #[] }] 49 4 #[] #[{ accessFlags := 25, nameIndex := 354, descriptorIndex := 339, attributes := #[] }, { accessFlags := 25, nameIndex := 358, descriptorIndex := 339, attributes := #[] }, { accessFlags := 25, nameIndex := 361, descriptorIndex := 339, attributes := #[] }, { accessFlags := 26, nameIndex := 364, descriptorIndex := 339, attributes := #[] }, { accessFlags := 26, nameIndex := 365, descriptorIndex := 339, attributes := #[] }, { accessFlags := 26, nameIndex := 172, descriptorIndex := 173, attributes := #[] }, { accessFlags := 26, nameIndex := 176, descriptorIndex := 173, attributes := #[] }, { accessFlags := 8, nameIndex := 344, descriptorIndex := 339, attributes := #[] }, { accessFlags := 8, nameIndex := 338, descriptorIndex := 339, attributes := #[] }, { accessFlags := 4120, nameIndex := 245, descriptorIndex := 246, attributes := #[] }])
  fields := #[{ name := "E", type := .double, accessFlags := 25, slot := 0, constantValue := 0 }, { name := "PI", type := .double, accessFlags := 25, slot := 1, constantValue := 0 }, { name := "TAU", type := .double, accessFlags := 25, slot := 2, constantValue := 0 }, { name := "DEGREES_TO_RADIANS", type := .double, accessFlags := 26, slot := 3, constantValue := 0 }, { name := "RADIANS_TO_DEGREES", type := .double, accessFlags := 26, slot := 4, constantValue := 0 }, { name := "negativeZeroFloatBits", type := .long, accessFlags := 26, slot := 5, constantValue := 0 }, { name := "negativeZeroDoubleBits", type := .long, accessFlags := 26, slot := 6, constantValue := 0 }, { name := "twoToTheDoubleScaleUp", type := .double, accessFlags := 8, slot := 7, constantValue := 0 }, { name := "twoToTheDoubleScaleDown", type := .double, accessFlags := 8, slot := 8, constantValue := 0 }, { name := "$assertionsDisabled", type := .boolean, accessFlags := 4120, slot := 9, constantValue := 0 }]
  methods := #[k4m0, k4m1]
  instanceTypes := #[]
  staticTypes := #[.double, .double, .double, .double, .double, .long, .long, .double, .double, .boolean]
  resolved := Array.replicate 460 none
  statics := none }

def pool5 : Array CpInfo := pool [(1, u "java/lang/Cloneable"), (0, .class_ 1), (0, u "java/lang/Object"), (0, .class_ 3)] 3

/-- java/lang/Cloneable -/
def k5 : Class := { plain "java/lang/Cloneable" (some 0) with
  accessFlags := 1537
  interfaces := #[]
  cf := some (fileOf pool5 2 #[] #[] 1537 4 #[] #[])
  fields := #[]
  methods := #[]
  instanceTypes := #[]
  staticTypes := #[]
  resolved := Array.replicate 8 none
  statics := none }

def pool6 : Array CpInfo := pool [(1, u "java/io/Serializable"), (0, .class_ 1), (0, u "java/lang/Object"), (0, .class_ 3)] 3

/-- java/io/Serializable -/
def k6 : Class := { plain "java/io/Serializable" (some 0) with
  accessFlags := 1537
  interfaces := #[]
  cf := some (fileOf pool6 2 #[] #[] 1537 4 #[] #[])
  fields := #[]
  methods := #[]
  instanceTypes := #[]
  staticTypes := #[]
  resolved := Array.replicate 8 none
  statics := none }

/-- the primitive byte -/
def k7 : Class := { plain "byte" none with kind := .primitive 'B', accessFlags := 0x411 }
/-- [B -/
def k8 : Class := { plain "[B" (some 0) with kind := .array 7 .byte, interfaces := #[5, 6], accessFlags := 1041 }

/-- the primitive int -/
def k9 : Class := { plain "int" none with kind := .primitive 'I', accessFlags := 0x411 }
/-- [I -/
def k10 : Class := { plain "[I" (some 0) with kind := .array 9 .int, interfaces := #[5, 6], accessFlags := 1041 }

/-- the primitive double -/
def k11 : Class := { plain "double" none with kind := .primitive 'D', accessFlags := 0x411 }
/-- [D -/
def k12 : Class := { plain "[D" (some 0) with kind := .array 11 .double, interfaces := #[5, 6], accessFlags := 1041 }

def heap : Heap := #[]
def classes : Array Class := #[k0, k1, k2, k3, k4, k5, k6, k7, k8, k9, k10, k11, k12]
def interned : List (Array UInt16 × Addr) := []
def slotsUsed : Nat := 0
def theMethod : MethodId := ⟨1, 1⟩
def args0 : Array Value := #[.int 3, .int 2, .int 1, .int 7]
def aboutOver (below : List Frame) : State where
  vm := { classes := classes, interned := interned.toArray }
  heap := heap
  slotsUsed := slotsUsed
  threads := #[{ frames := .invoking theMethod args0 :: below }]
def below0 : List Frame := [.native { method := ⟨0, 0⟩, args := #[] }]
def about1 : State := aboutOver below0
def p0 : Program := .bare "" "" ""
def e0 : Env := launch0.env 0 0 0
theorem w_frames : about1.frames = Frame.invoking theMethod args0 :: below0 := rfl
set_option maxRecDepth 65536 in
theorem w_args : argsFit about1.vm theMethod args0 = true := by decide +kernel
set_option maxRecDepth 65536 in
theorem w_heap : heapFits about1 = true := by decide +kernel
set_option maxRecDepth 65536 in
theorem w_runnable : about1.curStatus? = some .runnable := by decide +kernel
set_option maxRecDepth 65536 in
theorem w_alone : about1.alone = true := by decide +kernel
set_option maxRecDepth 65536 in
theorem w_named : about1.methodNamed? x = some theMethod := by decide +kernel
set_option maxRecDepth 65536 in
theorem w_hears : about1.hears theMethod below0 = true := by decide +kernel
set_option maxRecDepth 65536 in
theorem w_ripe : about1.ripe theMethod args0 below0 = true := by decide +kernel
theorem w_running : about1.status = .running := rfl
set_option maxRecDepth 65536 in
theorem w_room : about1.hasRoom e0.platform room_1 = true :=
  launch0.hasRoom_least _ room_1 (by decide +kernel) (by decide +kernel) (by decide +kernel) (by decide +kernel) (by decide +kernel) (by decide +kernel)
theorem allAtoms_all (ts : List Jvm.Cond) (a : Array Jvm.Value) (st : Jvm.State) : (allAtoms ts).before a st = ts.all (fun c => c.before a st) := by
  induction ts with
  | nil => rfl
  | cons c t ih =>
    show (Jvm.Cond.and c (allAtoms t)).before a st = _
    rw [Jvm.Cond.before_and, ih, List.all_cons]
def words1 : List Jvm.Cond := Jvm.Cond.code x code maxLocals ret :: tables_1
/-- a 'code' word, met by the world's own term for the bytes: nothing is compared byte by byte -/
theorem code_word {y : MethodName} {bytes : ByteArray} {mx : Nat} {rt : Option FieldType} {a : Array Value} {s : State} {m : MethodId} {meth : Method} {c : Code} (h1 : s.methodNamed? y = some m) (h2 : s.vm.method? m = some meth) (h3 : meth.code = some c) (h4 : c.code = bytes)
    (h5 : (c.maxLocals == mx && c.exceptionTable.isEmpty && decide (c.maxStack ≤ mostOperands) && decide (meth.sig.returnType = rt) && !meth.locks && decide (parseMethodDescriptor y.desc = some meth.sig)) = true) : (Jvm.Cond.code y bytes mx rt).before a s = true := by
  simp only [Bool.and_eq_true, beq_iff_eq, Bool.not_eq_true', decide_eq_true_eq] at h5
  obtain ⟨⟨⟨⟨⟨g1, g2⟩, g3⟩, g4⟩, g5⟩, g6⟩ := h5
  simp [Cond.before, Cond.holds, Cond.value, h1, h2, h3, h4, g1, g2, g3, g4, g5, g6]
def isCode : Jvm.Cond → Bool
  | .code _ _ _ _ => true
  | _ => false
theorem all_split {L : List Jvm.Cond} {P : Jvm.Cond → Bool} (h1 : L.all (fun c => isCode c || P c) = true) (h2 : ∀ c ∈ L.filter isCode, P c = true) : L.all P = true := by
  refine List.all_eq_true.mpr fun c hc => ?_
  have h := List.all_eq_true.mp h1 c hc
  rcases Bool.eq_false_or_eq_true (isCode c) with hi | hi
  · exact h2 c (List.mem_filter.mpr ⟨hc, hi⟩)
  · simpa [hi] using h
set_option maxRecDepth 65536 in
theorem w_c0 : (Jvm.Cond.code x code maxLocals ret).before args0 about1 = true := code_word (m := ⟨1, 1⟩) (meth := k1m1) (c := k1c1) (by decide +kernel) rfl rfl rfl (by decide +kernel)
set_option maxRecDepth 65536 in
theorem w_c1 : (Jvm.Cond.code ({ cls := "com/example/wayshard/wayshard/service/VertexQueue", name := "<init>", desc := "(I)V" } : Jvm.MethodName) prog_64_method_1_code (2 : Nat) (Option.none : Option Jvm.ClassFile.FieldType)).before args0 about1 = true := code_word (m := ⟨2, 0⟩) (meth := k2m0) (c := k2c0) (by decide +kernel) rfl rfl rfl (by decide +kernel)
set_option maxRecDepth 65536 in
theorem w_c2 : (Jvm.Cond.code ({ cls := "java/lang/Object", name := "<init>", desc := "()V" } : Jvm.MethodName) object_method_1_code (1 : Nat) (Option.none : Option Jvm.ClassFile.FieldType)).before args0 about1 = true := code_word (m := ⟨0, 0⟩) (meth := k0m0) (c := k0c0) (by decide +kernel) rfl rfl rfl (by decide +kernel)
set_option maxRecDepth 65536 in
theorem w_c3 : (Jvm.Cond.code ({ cls := "java/util/Arrays", name := "fill", desc := "([II)V" } : Jvm.MethodName) jdk_65_method_103_code (4 : Nat) (Option.none : Option Jvm.ClassFile.FieldType)).before args0 about1 = true := code_word (m := ⟨3, 1⟩) (meth := k3m1) (c := k3c1) (by decide +kernel) rfl rfl rfl (by decide +kernel)
set_option maxRecDepth 65536 in
theorem w_c4 : (Jvm.Cond.code ({ cls := "java/lang/Math", name := "min", desc := "(II)I" } : Jvm.MethodName) jdk_29_method_69_code (2 : Nat) (Option.some Jvm.ClassFile.FieldType.int)).before args0 about1 = true := code_word (m := ⟨4, 1⟩) (meth := k4m1) (c := k4c1) (by decide +kernel) rfl rfl rfl (by decide +kernel)
set_option maxRecDepth 65536 in
theorem w_c5 : (Jvm.Cond.code ({ cls := "com/example/wayshard/wayshard/service/VertexQueue", name := "clear", desc := "()V" } : Jvm.MethodName) prog_64_method_3_code (2 : Nat) (Option.none : Option Jvm.ClassFile.FieldType)).before args0 about1 = true := code_word (m := ⟨2, 2⟩) (meth := k2m2) (c := k2c2) (by decide +kernel) rfl rfl rfl (by decide +kernel)
set_option maxRecDepth 65536 in
theorem w_c6 : (Jvm.Cond.code ({ cls := "com/example/wayshard/wayshard/service/VertexQueue", name := "isEmpty", desc := "()Z" } : Jvm.MethodName) prog_64_method_2_code (1 : Nat) (Option.some Jvm.ClassFile.FieldType.boolean)).before args0 about1 = true := code_word (m := ⟨2, 1⟩) (meth := k2m1) (c := k2c1) (by decide +kernel) rfl rfl rfl (by decide +kernel)
set_option maxRecDepth 65536 in
theorem w_c7 : (Jvm.Cond.code ({ cls := "com/example/wayshard/wayshard/service/VertexQueue", name := "isTaken", desc := "(I)Z" } : Jvm.MethodName) prog_64_method_4_code (2 : Nat) (Option.some Jvm.ClassFile.FieldType.boolean)).before args0 about1 = true := code_word (m := ⟨2, 3⟩) (meth := k2m3) (c := k2c3) (by decide +kernel) rfl rfl rfl (by decide +kernel)
set_option maxRecDepth 65536 in
theorem w_c8 : (Jvm.Cond.code ({ cls := "com/example/wayshard/wayshard/service/VertexQueue", name := "offer", desc := "(ID)V" } : Jvm.MethodName) prog_64_method_5_code (5 : Nat) (Option.none : Option Jvm.ClassFile.FieldType)).before args0 about1 = true := code_word (m := ⟨2, 4⟩) (meth := k2m4) (c := k2c4) (by decide +kernel) rfl rfl rfl (by decide +kernel)
set_option maxRecDepth 65536 in
theorem w_c9 : (Jvm.Cond.code ({ cls := "com/example/wayshard/wayshard/service/VertexQueue", name := "siftUp", desc := "(I)V" } : Jvm.MethodName) prog_64_method_7_code (5 : Nat) (Option.none : Option Jvm.ClassFile.FieldType)).before args0 about1 = true := code_word (m := ⟨2, 6⟩) (meth := k2m6) (c := k2c6) (by decide +kernel) rfl rfl rfl (by decide +kernel)
set_option maxRecDepth 65536 in
theorem w_c10 : (Jvm.Cond.code ({ cls := "com/example/wayshard/wayshard/service/VertexQueue", name := "move", desc := "(II)V" } : Jvm.MethodName) prog_64_method_9_code (3 : Nat) (Option.none : Option Jvm.ClassFile.FieldType)).before args0 about1 = true := code_word (m := ⟨2, 8⟩) (meth := k2m8) (c := k2c8) (by decide +kernel) rfl rfl rfl (by decide +kernel)
set_option maxRecDepth 65536 in
theorem w_c11 : (Jvm.Cond.code ({ cls := "com/example/wayshard/wayshard/service/VertexQueue", name := "poll", desc := "()I" } : Jvm.MethodName) prog_64_method_6_code (2 : Nat) (Option.some Jvm.ClassFile.FieldType.int)).before args0 about1 = true := code_word (m := ⟨2, 5⟩) (meth := k2m5) (c := k2c5) (by decide +kernel) rfl rfl rfl (by decide +kernel)
set_option maxRecDepth 65536 in
theorem w_c12 : (Jvm.Cond.code ({ cls := "com/example/wayshard/wayshard/service/VertexQueue", name := "siftDown", desc := "(I)V" } : Jvm.MethodName) prog_64_method_8_code (5 : Nat) (Option.none : Option Jvm.ClassFile.FieldType)).before args0 about1 = true := code_word (m := ⟨2, 7⟩) (meth := k2m7) (c := k2c7) (by decide +kernel) rfl rfl rfl (by decide +kernel)
def codes1 : List Jvm.Cond := [Jvm.Cond.code x code maxLocals ret, Jvm.Cond.code ({ cls := "com/example/wayshard/wayshard/service/VertexQueue", name := "<init>", desc := "(I)V" } : Jvm.MethodName) prog_64_method_1_code (2 : Nat) (Option.none : Option Jvm.ClassFile.FieldType), Jvm.Cond.code ({ cls := "java/lang/Object", name := "<init>", desc := "()V" } : Jvm.MethodName) object_method_1_code (1 : Nat) (Option.none : Option Jvm.ClassFile.FieldType), Jvm.Cond.code ({ cls := "java/util/Arrays", name := "fill", desc := "([II)V" } : Jvm.MethodName) jdk_65_method_103_code (4 : Nat) (Option.none : Option Jvm.ClassFile.FieldType), Jvm.Cond.code ({ cls := "java/lang/Math", name := "min", desc := "(II)I" } : Jvm.MethodName) jdk_29_method_69_code (2 : Nat) (Option.some Jvm.ClassFile.FieldType.int), Jvm.Cond.code ({ cls := "com/example/wayshard/wayshard/service/VertexQueue", name := "clear", desc := "()V" } : Jvm.MethodName) prog_64_method_3_code (2 : Nat) (Option.none : Option Jvm.ClassFile.FieldType), Jvm.Cond.code ({ cls := "com/example/wayshard/wayshard/service/VertexQueue", name := "isEmpty", desc := "()Z" } : Jvm.MethodName) prog_64_method_2_code (1 : Nat) (Option.some Jvm.ClassFile.FieldType.boolean), Jvm.Cond.code ({ cls := "com/example/wayshard/wayshard/service/VertexQueue", name := "isTaken", desc := "(I)Z" } : Jvm.MethodName) prog_64_method_4_code (2 : Nat) (Option.some Jvm.ClassFile.FieldType.boolean), Jvm.Cond.code ({ cls := "com/example/wayshard/wayshard/service/VertexQueue", name := "offer", desc := "(ID)V" } : Jvm.MethodName) prog_64_method_5_code (5 : Nat) (Option.none : Option Jvm.ClassFile.FieldType), Jvm.Cond.code ({ cls := "com/example/wayshard/wayshard/service/VertexQueue", name := "siftUp", desc := "(I)V" } : Jvm.MethodName) prog_64_method_7_code (5 : Nat) (Option.none : Option Jvm.ClassFile.FieldType), Jvm.Cond.code ({ cls := "com/example/wayshard/wayshard/service/VertexQueue", name := "move", desc := "(II)V" } : Jvm.MethodName) prog_64_method_9_code (3 : Nat) (Option.none : Option Jvm.ClassFile.FieldType), Jvm.Cond.code ({ cls := "com/example/wayshard/wayshard/service/VertexQueue", name := "poll", desc := "()I" } : Jvm.MethodName) prog_64_method_6_code (2 : Nat) (Option.some Jvm.ClassFile.FieldType.int), Jvm.Cond.code ({ cls := "com/example/wayshard/wayshard/service/VertexQueue", name := "siftDown", desc := "(I)V" } : Jvm.MethodName) prog_64_method_8_code (5 : Nat) (Option.none : Option Jvm.ClassFile.FieldType)]
set_option maxRecDepth 65536 in
theorem codes_eq : words1.filter isCode = codes1 := rfl
theorem w_codes : ∀ c ∈ words1.filter isCode, c.before args0 about1 = true := by
  rw [codes_eq]
  intro c hc
  simp only [codes1, List.mem_cons, List.not_mem_nil, or_false] at hc
  rcases hc with rfl | rfl | rfl | rfl | rfl | rfl | rfl | rfl | rfl | rfl | rfl | rfl | rfl
  · exact w_c0
  · exact w_c1
  · exact w_c2
  · exact w_c3
  · exact w_c4
  · exact w_c5
  · exact w_c6
  · exact w_c7
  · exact w_c8
  · exact w_c9
  · exact w_c10
  · exact w_c11
  · exact w_c12
set_option maxRecDepth 65536 in
theorem w_t1 : (words1.take 24).all (fun c => isCode c || c.before args0 about1) = true := by decide +kernel
set_option maxRecDepth 65536 in
theorem w_t2 : ((words1.drop 24).take 24).all (fun c => isCode c || c.before args0 about1) = true := by decide +kernel
set_option maxRecDepth 65536 in
theorem w_t3 : ((words1.drop 24).drop 24).all (fun c => isCode c || c.before args0 about1) = true := by decide +kernel
theorem w_tables : (allAtoms (Jvm.Cond.code x code maxLocals ret :: tables_1)).before args0 about1 = true := by
  rw [allAtoms_all]
  show words1.all (fun c => c.before args0 about1) = true
  refine all_split ?_ w_codes
  rw [← List.take_append_drop 24 words1, List.all_append, w_t1, ← List.take_append_drop 24 (words1.drop 24), List.all_append, w_t2, w_t3]
  rfl
set_option maxRecDepth 65536 in
theorem w_case : (Jvm.Cond.and given_1 narrow_1).before args0 about1 = true := by decide +kernel
theorem w_applies : (headSpec (Jvm.Cond.code x code maxLocals ret :: tables_1) room_1).applies x e0.platform about1 = true :=
  (Spec.applies_iff w_frames).mpr ⟨w_running, w_runnable, w_alone, w_named, w_hears, w_ripe, w_room, w_tables⟩
theorem atStart : AtStart classFile x code maxLocals ret World_1 tables_1 room_1 Calls_1 rest_1 Pre_1 launch0 p0 e0 about1 theMethod args0 below0 :=
  ⟨lists_1, trivial, launch0.admits_env _ _ _, launch0.least_env, fairChoices_fair.cas, fairChoices_fair.clock, w_frames, w_args, w_heap, w_applies, trivial, trivial, w_case⟩
end start1
theorem witness_1 : WitnessClaimed_1 := ⟨start1.p0, start1.e0, start1.about1, start1.theMethod, start1.args0, start1.below0, start1.atStart⟩
end Jvm.Pilot.@@N@@
