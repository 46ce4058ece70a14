import JvmDerived
import JvmDerived.Pilot.@@N@@Statement
import JvmDerived.Pilot.@@N@@Code
set_option linter.unusedVariables false
set_option linter.unusedSimpArgs false
namespace Jvm.Own
open Sem ClassFile Op Lib Jvm.Stand Jvm.Free Jvm.LawKit Jvm.RoadKit
/-- from the frame f over T the run ends in a return that Q speaks of -/
def Run (p : Program) (e : Env) (s : State) (below : List Frame) (Q : Option Value → Heap → List Loc → Prop) (cm sm : Nat) (T : State) (f : JFrame) : Prop :=
  ∃ s₂ o, Steps p.tables e below (T.setTop f) s₂ ∧ s₂.status = .running ∧ Ended s₂ below o ∧ ∃ v L, o = .returned v ∧ Q v s₂.heap L ∧ FrameEnd s o s₂ L cm sm
section Own
variable {p : Program} {l : Launch} {e : Env} {R : Room} {s : State} {m : MethodId} {args : Array Value} {below : List Frame} {meth : Method} {c : Code} {T : State} {locs : List Loc} {cells slots : Nat} {Q : Option Value → Heap → List Loc → Prop} {cm sm : Nat}
theorem go {T' : State} {f f' : JFrame} (st : ∀ target, Steps p.tables e below (T'.setTop f') target → Steps p.tables e below (T.setTop f) target) (k : Run p e s below Q cm sm T' f') : Run p e s below Q cm sm T f := by
  obtain ⟨s₂, o, h, r⟩ := k
  exact ⟨s₂, o, st _ h, r⟩
theorem retZ (X : Stand p l e R s m args below meth c T locs cells slots) (hx : p.tables.exec = Jvm.exec) {pc : Nat} {Ls : Array Slot} {z : Int32} {t : FieldType} {rest : List Value} (hret : meth.sig.returnType = some t) (ht : t = .boolean ∨ t = .byte ∨ t = .char ∨ t = .short)
    (hd : decode c.code pc = .ok (.ireturn, 1)) (hlk : meth.locks = false) (hc : cells ≤ cm) (hs : slots ≤ sm) (hq : Q (some (.int (nar t z))) T.heap locs) : Run p e s below Q cm sm T (mkF m pc Ls (.int z :: rest)) := by
  obtain ⟨fs, hr, hrun, hended, hW, hsame⟩ := X.leave (v := some (.int (nar t z))) (fun h => by rw [hret] at h; cases h) hlk
  exact ⟨_, _, retN X hx hret ht hd hr, hrun, hended, _, _, rfl, hq, ⟨_, rfl⟩, hW, hsame.mono hc hs⟩
theorem retW (X : Stand p l e R s m args below meth c T locs cells slots) (hx : p.tables.exec = Jvm.exec) {pc : Nat} {Ls : Array Slot} {w : Value} {t : FieldType} {i : Instr} {rest : List Value} (hret : meth.sig.returnType = some t) (hn : narrow t w = w)
    (hi : (i = .ireturn ∧ (t = .int ∨ t = .boolean ∨ t = .byte ∨ t = .char ∨ t = .short) ∧ ∃ z, w = .int z) ∨ (i = .lreturn ∧ t = .long ∧ ∃ z, w = .long z) ∨ (i = .dreturn ∧ t = .double ∧ ∃ z, w = .double z) ∨ (i = .freturn ∧ t = .float ∧ ∃ z, w = .float z) ∨ (i = .areturn ∧ t.isReference = true ∧ w.isRef = true))
    (hd : decode c.code pc = .ok (i, 1)) (hlk : meth.locks = false) (hc : cells ≤ cm) (hs : slots ≤ sm) (hq : Q (some w) T.heap locs) : Run p e s below Q cm sm T (mkF m pc Ls (w :: rest)) := by
  obtain ⟨fs, hr, hrun, hended, hW, hsame⟩ := X.leave (v := some w) (fun h => by rw [hret] at h; cases h) hlk
  exact ⟨_, _, retOut X hx hret hn hi hd hr, hrun, hended, _, _, rfl, hq, ⟨_, rfl⟩, hW, hsame.mono hc hs⟩
theorem retV (X : Stand p l e R s m args below meth c T locs cells slots) (hx : p.tables.exec = Jvm.exec) {pc : Nat} {Ls : Array Slot} (hret : meth.sig.returnType = none)
    (hd : decode c.code pc = .ok (.return_, 1)) (hlk : meth.locks = false) (hc : cells ≤ cm) (hs : slots ≤ sm) (hq : Q none T.heap locs) : Run p e s below Q cm sm T (mkF m pc Ls []) := by
  obtain ⟨fs, hr, hrun, hended, hW, hsame⟩ := X.leave (v := none) (fun _ => rfl) hlk
  exact ⟨_, _, X.returnOut hx hret hd hr, hrun, hended, _, _, rfl, hq, ⟨_, rfl⟩, hW, hsame.mono hc hs⟩
/-- the same, where Strings may have been interned -/
def RunW (p : Program) (e : Env) (s : State) (below : List Frame) (Q : Option Value → Heap → List Loc → Prop) (cm sm : Nat) (T : State) (f : JFrame) : Prop :=
  ∃ s₂ o, Steps p.tables e below (T.setTop f) s₂ ∧ s₂.status = .running ∧ Ended s₂ below o ∧ ∃ v L, o = .returned v ∧ Q v s₂.heap L ∧ ReturnedEndW s o s₂ L cm sm
theorem goW {T' : State} {f f' : JFrame} (st : ∀ target, Steps p.tables e below (T'.setTop f') target → Steps p.tables e below (T.setTop f) target) (k : RunW p e s below Q cm sm T' f') : RunW p e s below Q cm sm T f := by
  obtain ⟨s₂, o, h, r⟩ := k
  exact ⟨s₂, o, st _ h, r⟩
theorem retZW {vm₁ : Vm} (X : Stand p l e R (s.setVm vm₁) m args below meth c T locs cells slots) {n : Nat} (hS : s.Since vm₁ n) (hn : n ≤ T.heap.size) (hx : p.tables.exec = Jvm.exec) {pc : Nat} {Ls : Array Slot} {z : Int32} {t : FieldType} {rest : List Value} (hret : meth.sig.returnType = some t) (ht : t = .boolean ∨ t = .byte ∨ t = .char ∨ t = .short)
    (hd : decode c.code pc = .ok (.ireturn, 1)) (hlk : meth.locks = false) (hc : cells ≤ cm) (hs : slots ≤ sm) (hq : Q (some (.int (nar t z))) T.heap locs) : RunW p e s below Q cm sm T (mkF m pc Ls (.int z :: rest)) := by
  obtain ⟨fs, hr, hrun, hended, h1, h2, h3, h4⟩ := X.leaveW hS hn (v := some (.int (nar t z))) (fun h => by rw [hret] at h; cases h) hlk
  exact ⟨_, _, retN X hx hret ht hd hr, hrun, hended, _, _, rfl, hq, h1, h2, h3, h4.mono hc hs⟩
theorem retWW {vm₁ : Vm} (X : Stand p l e R (s.setVm vm₁) m args below meth c T locs cells slots) {n : Nat} (hS : s.Since vm₁ n) (hn : n ≤ T.heap.size) (hx : p.tables.exec = Jvm.exec) {pc : Nat} {Ls : Array Slot} {w : Value} {t : FieldType} {i : Instr} {rest : List Value} (hret : meth.sig.returnType = some t) (hn' : narrow t w = w)
    (hi : (i = .ireturn ∧ (t = .int ∨ t = .boolean ∨ t = .byte ∨ t = .char ∨ t = .short) ∧ ∃ z, w = .int z) ∨ (i = .lreturn ∧ t = .long ∧ ∃ z, w = .long z) ∨ (i = .dreturn ∧ t = .double ∧ ∃ z, w = .double z) ∨ (i = .freturn ∧ t = .float ∧ ∃ z, w = .float z) ∨ (i = .areturn ∧ t.isReference = true ∧ w.isRef = true))
    (hd : decode c.code pc = .ok (i, 1)) (hlk : meth.locks = false) (hc : cells ≤ cm) (hs : slots ≤ sm) (hq : Q (some w) T.heap locs) : RunW p e s below Q cm sm T (mkF m pc Ls (w :: rest)) := by
  obtain ⟨fs, hr, hrun, hended, h1, h2, h3, h4⟩ := X.leaveW hS hn (v := some w) (fun h => by rw [hret] at h; cases h) hlk
  exact ⟨_, _, retOut X hx hret hn' hi hd hr, hrun, hended, _, _, rfl, hq, h1, h2, h3, h4.mono hc hs⟩
end Own
section Heap
variable {Z : State} {h h' h0 : Heap} {a b : Addr} {ty : FieldType} {vs : List Value} {ws ws' : List Addr} {v : Value} {k : ClassId} {z j : Int32}
/-- an array and all that it holds -/
def Ary (Z : State) (h : Heap) (a : Addr) (ty : FieldType) (vs : List Value) : Prop := ∃ c : Cell, Arr Z h a c ty ∧ c.slots.toList = vs ∧ vs.length < 2147483648 ∧ ∀ v ∈ vs, fits ty v = true
theorem Ary.lt (A : Ary Z h a ty vs) : a < h.size := by obtain ⟨c, A, -⟩ := A; exact A.lt
theorem Ary.ext (A : Ary Z h a ty vs) (E : Ext h h') : Ary Z h' a ty vs := by obtain ⟨c, A, r⟩ := A; exact ⟨c, A.ext E, r⟩
theorem Ary.keep (A : Ary Z h a ty vs) (K : Keep h h' ws) (q : a ∉ ws) : Ary Z h' a ty vs := by obtain ⟨c, A, r⟩ := A; exact ⟨c, ⟨K.2.1 a c A.1 q, A.2⟩, r⟩
theorem Ary.set (A : Ary Z h a ty vs) {i : Nat} (W : Wr h h' a i v) (hv : fits ty v = true) : Ary Z h' a ty (vs.set i v) := by
  obtain ⟨c, A, e, l, f⟩ := A
  refine ⟨_, A.same W, by simp [Cell.setSlot, e], by simpa using l, fun w hw => ?_⟩
  rcases List.mem_or_eq_of_mem_set hw with q | rfl
  · exact f w q
  · exact hv
theorem Ary.ld (A : Ary Z h a ty vs) (hj : ¬ j < 0) (hv : vs[j.toNatClampNeg]? = some v) : ∃ c : Cell, Arr Z h a c ty ∧ ¬ (j < 0 ∨ c.slots.size ≤ j.toNatClampNeg) ∧ c.slots[j.toNatClampNeg]? = some v := by
  obtain ⟨c, A, e, l, f⟩ := A
  have q : c.slots[j.toNatClampNeg]? = some v := by rw [← Array.getElem?_toList, e]; exact hv
  exact ⟨c, A, fun r => r.elim hj fun y => absurd (Array.getElem?_eq_some_iff.mp q).1 (Nat.not_lt.mpr y), q⟩
theorem Ary.st (A : Ary Z h a ty vs) (hj : ¬ j < 0) (hl : j.toNatClampNeg < vs.length) : ∃ c : Cell, Arr Z h a c ty ∧ ¬ (j < 0 ∨ c.slots.size ≤ j.toNatClampNeg) := by
  obtain ⟨c, A, e, l, f⟩ := A
  refine ⟨c, A, fun r => r.elim hj fun y => ?_⟩
  rw [← e, Array.length_toList] at hl
  omega
theorem Ary.len (A : Ary Z h a ty vs) : ∃ c : Cell, Arr Z h a c ty ∧ c.slots.size.toInt32 = vs.length.toInt32 := by
  obtain ⟨c, A, e, l, f⟩ := A
  exact ⟨c, A, by rw [← e, Array.length_toList]⟩
theorem Ary.new (A : Arr Z h a (newA k ty z) ty) : Ary Z h a ty (List.replicate z.toNatClampNeg (defaultValue ty)) := by
  refine ⟨_, A, by simp [newA], ?_, fun v hv => ?_⟩
  · rw [List.length_replicate]
    have := Int32.toInt_lt z
    simp only [Int32.toNatClampNeg]
    omega
  · rw [List.eq_of_mem_replicate hv]
    cases ty <;> rfl
theorem Ary.fit (A : Ary Z h a ty vs) : ∃ c : Cell, Arr Z h a c ty ∧ FitC Z c ∧ c.slots.toList = vs ∧ c.slots.size = vs.length ∧ ∀ (h' : Heap) (b : Addr), Arr Z h' b (cloneOf c) ty → Ary Z h' b ty vs := by
  obtain ⟨c, A, e, l, f⟩ := A
  refine ⟨c, A, fitC_of A fun i hi v hv => ?_, e, by rw [← e, Array.length_toList], fun _ _ B => ⟨_, B, e, l, f⟩⟩
  refine f v ?_
  rw [← e]
  exact List.mem_of_getElem? (by rw [Array.getElem?_toList]; exact hv)
theorem ldI {p : Program} {l : Launch} {e : Env} {R : Room} {s : State} {m : MethodId} {args : Array Value} {below : List Frame} {meth : Method} {c : Code} {T : State} {locs : List Loc} {cells slots : Nat} (X : Stand p l e R s m args below meth c T locs cells slots) (hx : p.tables.exec = Jvm.exec) (hZ : Z.Warmed39 s.vm) (eT : T.heap = h) (A : Ary Z h a .int vs) (hj : ¬ j < 0) (hv : vs[j.toNatClampNeg]? = some v) {g : JFrame} (hg : g.method = m) {rest : List Value} (hs : g.stack = .int j :: .ref a :: rest) (hd : decode c.code g.pc = .ok (.iaload, 1)) (target : State)
    (hr : Steps p.tables e below (T.setTop { g with pc := g.pc + 1, stack := v :: rest }) target) : Steps p.tables e below (T.setTop g) target := by
  obtain ⟨cl, Ar, hin, hat⟩ := A.ld hj hv
  exact X.iaload hx (by rw [eT]; exact Ar.1) (State.isArrayOf_alike hZ.alike Ar.2.1) Ar.2.2 hin hat hg hs hd target hr
theorem ldJ {p : Program} {l : Launch} {e : Env} {R : Room} {s : State} {m : MethodId} {args : Array Value} {below : List Frame} {meth : Method} {c : Code} {T : State} {locs : List Loc} {cells slots : Nat} (X : Stand p l e R s m args below meth c T locs cells slots) (hx : p.tables.exec = Jvm.exec) (hZ : Z.Warmed39 s.vm) (eT : T.heap = h) (A : Ary Z h a .long vs) (hj : ¬ j < 0) (hv : vs[j.toNatClampNeg]? = some v) {g : JFrame} (hg : g.method = m) {rest : List Value} (hs : g.stack = .int j :: .ref a :: rest) (hd : decode c.code g.pc = .ok (.laload, 1)) (target : State)
    (hr : Steps p.tables e below (T.setTop { g with pc := g.pc + 1, stack := v :: rest }) target) : Steps p.tables e below (T.setTop g) target := by
  obtain ⟨cl, Ar, hin, hat⟩ := A.ld hj hv
  exact X.laload hx (by rw [eT]; exact Ar.1) (State.isArrayOf_alike hZ.alike Ar.2.1) Ar.2.2 hin hat hg hs hd target hr
theorem ldC {p : Program} {l : Launch} {e : Env} {R : Room} {s : State} {m : MethodId} {args : Array Value} {below : List Frame} {meth : Method} {c : Code} {T : State} {locs : List Loc} {cells slots : Nat} (X : Stand p l e R s m args below meth c T locs cells slots) (hx : p.tables.exec = Jvm.exec) (hZ : Z.Warmed39 s.vm) (eT : T.heap = h) (A : Ary Z h a .char vs) (hj : ¬ j < 0) (hv : vs[j.toNatClampNeg]? = some v) {g : JFrame} (hg : g.method = m) {rest : List Value} (hs : g.stack = .int j :: .ref a :: rest) (hd : decode c.code g.pc = .ok (.caload, 1)) (target : State)
    (hr : Steps p.tables e below (T.setTop { g with pc := g.pc + 1, stack := v :: rest }) target) : Steps p.tables e below (T.setTop g) target := by
  obtain ⟨cl, Ar, hin, hat⟩ := A.ld hj hv
  exact X.caload hx (by rw [eT]; exact Ar.1) (State.isArrayOf_alike hZ.alike Ar.2.1) Ar.2.2 hin hat hg hs hd target hr
theorem ldB {p : Program} {l : Launch} {e : Env} {R : Room} {s : State} {m : MethodId} {args : Array Value} {below : List Frame} {meth : Method} {c : Code} {T : State} {locs : List Loc} {cells slots : Nat} (X : Stand p l e R s m args below meth c T locs cells slots) (hx : p.tables.exec = Jvm.exec) (hZ : Z.Warmed39 s.vm) (eT : T.heap = h) (A : Ary Z h a .byte vs) (hj : ¬ j < 0) (hv : vs[j.toNatClampNeg]? = some v) {g : JFrame} (hg : g.method = m) {rest : List Value} (hs : g.stack = .int j :: .ref a :: rest) (hd : decode c.code g.pc = .ok (.baload, 1)) (target : State)
    (hr : Steps p.tables e below (T.setTop { g with pc := g.pc + 1, stack := v :: rest }) target) : Steps p.tables e below (T.setTop g) target := by
  obtain ⟨cl, Ar, hin, hat⟩ := A.ld hj hv
  exact X.baloadBytes hx (by rw [eT]; exact Ar.1) (State.isArrayOf_alike hZ.alike Ar.2.1) Ar.2.2 hin hat hg hs hd target hr
theorem ldZ {p : Program} {l : Launch} {e : Env} {R : Room} {s : State} {m : MethodId} {args : Array Value} {below : List Frame} {meth : Method} {c : Code} {T : State} {locs : List Loc} {cells slots : Nat} (X : Stand p l e R s m args below meth c T locs cells slots) (hx : p.tables.exec = Jvm.exec) (hZ : Z.Warmed39 s.vm) (eT : T.heap = h) (A : Ary Z h a .boolean vs) (hj : ¬ j < 0) (hv : vs[j.toNatClampNeg]? = some v) {g : JFrame} (hg : g.method = m) {rest : List Value} (hs : g.stack = .int j :: .ref a :: rest) (hd : decode c.code g.pc = .ok (.baload, 1)) (target : State)
    (hr : Steps p.tables e below (T.setTop { g with pc := g.pc + 1, stack := v :: rest }) target) : Steps p.tables e below (T.setTop g) target := by
  obtain ⟨cl, Ar, hin, hat⟩ := A.ld hj hv
  exact X.baloadBooleans hx (by rw [eT]; exact Ar.1) (State.isArrayOf_alike hZ.alike Ar.2.1) Ar.2.2 hin hat hg hs hd target hr
theorem ldD {p : Program} {l : Launch} {e : Env} {R : Room} {s : State} {m : MethodId} {args : Array Value} {below : List Frame} {meth : Method} {c : Code} {T : State} {locs : List Loc} {cells slots : Nat} (X : Stand p l e R s m args below meth c T locs cells slots) (hx : p.tables.exec = Jvm.exec) (hZ : Z.Warmed39 s.vm) (eT : T.heap = h) (A : Ary Z h a .double vs) (hj : ¬ j < 0) (hv : vs[j.toNatClampNeg]? = some v) {g : JFrame} (hg : g.method = m) {rest : List Value} (hs : g.stack = .int j :: .ref a :: rest) (hd : decode c.code g.pc = .ok (.daload, 1)) (target : State)
    (hr : Steps p.tables e below (T.setTop { g with pc := g.pc + 1, stack := v :: rest }) target) : Steps p.tables e below (T.setTop g) target := by
  obtain ⟨cl, Ar, hin, hat⟩ := A.ld hj hv
  exact X.daload hx (by rw [eT]; exact Ar.1) (State.isArrayOf_alike hZ.alike Ar.2.1) Ar.2.2 hin hat hg hs hd target hr
theorem ldR {p : Program} {l : Launch} {e : Env} {R : Room} {s : State} {m : MethodId} {args : Array Value} {below : List Frame} {meth : Method} {c : Code} {T : State} {locs : List Loc} {cells slots : Nat} (X : Stand p l e R s m args below meth c T locs cells slots) (hx : p.tables.exec = Jvm.exec) (hZ : Z.Warmed39 s.vm) (eT : T.heap = h) (A : Ary Z h a ty vs) (ht : ty.isReference = true) (hj : ¬ j < 0) (hv : vs[j.toNatClampNeg]? = some v) {g : JFrame} (hg : g.method = m) {rest : List Value} (hs : g.stack = .int j :: .ref a :: rest) (hd : decode c.code g.pc = .ok (.aaload, 1)) (target : State)
    (hr : Steps p.tables e below (T.setTop { g with pc := g.pc + 1, stack := v :: rest }) target) : Steps p.tables e below (T.setTop g) target := by
  obtain ⟨cl, Ar, hin, hat⟩ := A.ld hj hv
  exact X.aaload hx (by rw [eT]; exact Ar.1) (State.isArrayOf_alike hZ.alike Ar.2.1) ht Ar.2.2 hin hat hg hs hd target hr
theorem alen {p : Program} {l : Launch} {e : Env} {R : Room} {s : State} {m : MethodId} {args : Array Value} {below : List Frame} {meth : Method} {c : Code} {T : State} {locs : List Loc} {cells slots : Nat} (X : Stand p l e R s m args below meth c T locs cells slots) (hx : p.tables.exec = Jvm.exec) (hZ : Z.Warmed39 s.vm) (eT : T.heap = h) (A : Ary Z h a ty vs) (hn : vs.length.toInt32 = z) {g : JFrame} (hg : g.method = m) {rest : List Value} (hs : g.stack = .ref a :: rest) (hd : decode c.code g.pc = .ok (.arraylength, 1)) (target : State)
    (hr : Steps p.tables e below (T.setTop { g with pc := g.pc + 1, stack := .int z :: rest }) target) : Steps p.tables e below (T.setTop g) target := by
  obtain ⟨cl, Ar, ln⟩ := A.len
  exact X.arraylength hx (by rw [eT]; exact Ar.1) (State.isArrayOf_alike hZ.alike Ar.2.1) hg hs hd target (by rw [ln.trans hn]; exact hr)
theorem getI {xs : List Int32} {i : Nat} (q : i < xs.length) : (xs.map Value.int)[i]? = some (.int (xs.getD i 0)) := by
  simp [List.getElem?_map, List.getD_eq_getElem?_getD, List.getElem?_eq_getElem q]
theorem setI {xs : List Int32} {i : Nat} {x : Int32} : (xs.map Value.int).set i (.int x) = (xs.set i x).map Value.int := List.map_set.symm
/-- an array made over the class C -/
def OvA (Z : State) (h : Heap) (a : Addr) (C : String) : Prop := ∃ c : Cell, h[a]? = some c ∧ Ovr Z c.cls C
theorem OvA.keep {C : String} (O : OvA Z h a C) (K : Keep h h' ws) : OvA Z h' a C := by
  obtain ⟨c, e, o⟩ := O
  obtain ⟨c', q, r1, -, -⟩ := K.2.2 a c e
  exact ⟨c', q, r1 ▸ o⟩
theorem stA {C : String} {y : Addr} (O : OvA Z h a C) (A : Ary Z h a ty vs) (I : Ins Z h y C true) : Sto Z h a (.ref y) := by
  obtain ⟨c, A, -⟩ := A
  obtain ⟨c', e, o⟩ := O
  cases A.1.symm.trans e
  exact Sto.of A o I
theorem eqi_v {args : Array Value} {first s : State} {o : Option Outcome} {idx : List Nat} {t : Term} {k : Int32} (q : (Cond.eq t (.int k)).value args first o s idx = some true) : t.eval args first o idx s = some (.int k) := by
  simp only [Cond.value, Term.eval] at q
  cases ht : t.eval args first o idx s with
  | none => simp [ht] at q
  | some x => cases x <;> simp [ht] at q ⊢; exact q
theorem ary_start {args : Array Value} {s : State} {t : Term} {ty : FieldType} {a : Addr} {n : Int32} {vs : List Value} (hf : Fit s) (ev : t.eval args s none [] s = some (.ref a)) (ha : (Cond.arrayOf t ty).value args s none s [] = some true) (hl : (Cond.eq (.length t) (.int n)).value args s none s [] = some true) (hn : n = vs.length.toInt32) (hs : vs.length < 2147483648)
    (he : ∀ i, i < vs.length → (Term.elem t (.int i.toInt32)).eval args s none [] s = vs[i]?) : Ary s s.heap a ty vs := by
  obtain ⟨cl, A⟩ := Arr.start ev ha
  have hA := A.fin (Vm.Alike.refl _)
  have e1 := eqi_v hl
  have hsz : cl.slots.size < 2147483648 := by
    refine Nat.lt_of_not_le fun q => ?_
    have : ¬ cl.slots.size < 2 ^ 31 := by omega
    simp [Term.eval, ev, hA, this] at e1
  have e2 := len_f (idx := []) ev hA (by omega)
  rw [e1] at e2
  have e3 : n = cl.slots.size.toInt32 := by simpa using e2
  have e4 : cl.slots.size = vs.length := by
    have q := hn.symm.trans e3
    have q1 : vs.length.toInt32.toInt = vs.length := len_toInt (by omega)
    have q2 : cl.slots.size.toInt32.toInt = cl.slots.size := len_toInt (by omega)
    rw [q, q2] at q1
    omega
  have e5 : ∀ i, i < vs.length → cl.slots[i]? = vs[i]? := fun i hi => by
    have q := he i hi
    rw [List.getElem?_eq_getElem hi] at q
    have r := (elem_in q ev (Term.int_eval _) A.1).2
    have e : i.toInt32.toNatClampNeg = i := by simp only [Int32.toNatClampNeg, len_toInt (show i < 2 ^ 31 by omega)]; rfl
    rw [e] at r
    rw [r, List.getElem?_eq_getElem hi]
  refine ⟨cl, A, ?_, hs, fun v hv => ?_⟩
  · refine List.ext_getElem? fun i => ?_
    rw [Array.getElem?_toList]
    by_cases hi : i < vs.length
    · exact e5 i hi
    · rw [Array.getElem?_eq_none (by omega), List.getElem?_eq_none (by omega)]
  · obtain ⟨i, hi, rfl⟩ := List.getElem_of_mem hv
    have r := e5 i hi
    rw [List.getElem?_eq_getElem hi] at r
    have e : i.toInt32.toNatClampNeg = i := by simp only [Int32.toNatClampNeg, len_toInt (show i < 2 ^ 31 by omega)]; rfl
    exact elem_fits (j := i.toInt32) hf A (idx_in (by omega) (by omega)) (by rw [e]; exact r)
theorem nin1 {x y : Addr} (q : x ≠ y) : x ∉ [y] := ninS q nin0
theorem Arv.ary {dv : Value} (F : Arv Z h a k ty z vs dv) (hl : z.toNatClampNeg = vs.length) : Ary Z h a ty vs := by
  obtain ⟨c, A, -, S, hz, H, G⟩ := F
  have hs : c.slots.size = vs.length := S.trans hl
  have hb := (back32 hz).2
  refine ⟨c, A, List.ext_getElem? fun i => ?_, by omega, fun v hv => ?_⟩
  · rw [Array.getElem?_toList]
    by_cases hi : i < vs.length
    · rw [H i (by omega), List.getD_eq_getElem?_getD, List.getElem?_eq_getElem hi]
      rfl
    · rw [Array.getElem?_eq_none (by omega), List.getElem?_eq_none (by omega)]
  · obtain ⟨i, hi, rfl⟩ := List.getElem_of_mem hv
    have := G i (by omega)
    rw [List.getD_eq_getElem?_getD, List.getElem?_eq_getElem hi] at this
    exact this
end Heap
section Held
variable {p : Program} {l : Launch} {e : Env} {R : Room} {s : State} {m : MethodId} {args : Array Value} {below : List Frame} {meth : Method} {c : Code} {T : State} {locs : List Loc} {cells slots : Nat} {Q : Option Value → Heap → List Loc → Prop} {cm sm : Nat} {Z : State} {EL : List (String × Nat)} {h h0 : Heap} {aw : Array Value}
/-- a run that may intern, and keeps what is held of the constants EL -/
def RunH (Z : State) (EL : List (String × Nat)) (p : Program) (e : Env) (s : State) (below : List Frame) (Q : Option Value → Heap → List Loc → Prop) (cm sm : Nat) (T : State) (f : JFrame) : Prop :=
  ∃ s₂ o, Steps p.tables e below (T.setTop f) s₂ ∧ s₂.status = .running ∧ Ended s₂ below o ∧ ∃ v L, o = .returned v ∧ Q v s₂.heap L ∧ CHr Z EL s.vm s.heap s₂.vm s₂.heap ∧ ReturnedEndW s o s₂ L cm sm
theorem goH {T' : State} {f f' : JFrame} (st : ∀ target, Steps p.tables e below (T'.setTop f') target → Steps p.tables e below (T.setTop f) target) (k : RunH Z EL p e s below Q cm sm T' f') : RunH Z EL p e s below Q cm sm T f := by
  obtain ⟨s₂, o, h, r⟩ := k
  exact ⟨s₂, o, st _ h, r⟩
theorem retZH {vm₁ : Vm} (X : Stand p l e R (s.setVm vm₁) m args below meth c T locs cells slots) {n : Nat} (hS : s.Since vm₁ n) (hn : n ≤ T.heap.size) (hh : s.heap = h0) (eT : T.heap = h) (C : CHr Z EL s.vm h0 vm₁ h) (hEL : EW Z aw EL) (hZ : Z.Warmed39 vm₁) (hx : p.tables.exec = Jvm.exec) {pc : Nat} {Ls : Array Slot} {z : Int32} {t : FieldType} {rest : List Value} (hret : meth.sig.returnType = some t) (ht : t = .boolean ∨ t = .byte ∨ t = .char ∨ t = .short)
    (hd : decode c.code pc = .ok (.ireturn, 1)) (hlk : meth.locks = false) (hc : cells ≤ cm) (hs : slots ≤ sm) (hq : Q (some (.int (nar t z))) T.heap locs) : RunH Z EL p e s below Q cm sm T (mkF m pc Ls (.int z :: rest)) := by
  obtain ⟨fs, hr, hrun, hended, h1, h2, h3, h4⟩ := X.leaveW hS hn (v := some (.int (nar t z))) (fun h => by rw [hret] at h; cases h) hlk
  have C' := C.trans (CHv.at X hZ hEL C.1)
  subst hh eT
  exact ⟨_, _, retN X hx hret ht hd hr, hrun, hended, _, _, rfl, hq, C', h1, h2, h3, h4.mono hc hs⟩
theorem retWH {vm₁ : Vm} (X : Stand p l e R (s.setVm vm₁) m args below meth c T locs cells slots) {n : Nat} (hS : s.Since vm₁ n) (hn : n ≤ T.heap.size) (hh : s.heap = h0) (eT : T.heap = h) (C : CHr Z EL s.vm h0 vm₁ h) (hEL : EW Z aw EL) (hZ : Z.Warmed39 vm₁) (hx : p.tables.exec = Jvm.exec) {pc : Nat} {Ls : Array Slot} {w : Value} {t : FieldType} {i : Instr} {rest : List Value} (hret : meth.sig.returnType = some t) (hn' : narrow t w = w)
    (hi : (i = .ireturn ∧ (t = .int ∨ t = .boolean ∨ t = .byte ∨ t = .char ∨ t = .short) ∧ ∃ z, w = .int z) ∨ (i = .lreturn ∧ t = .long ∧ ∃ z, w = .long z) ∨ (i = .dreturn ∧ t = .double ∧ ∃ z, w = .double z) ∨ (i = .freturn ∧ t = .float ∧ ∃ z, w = .float z) ∨ (i = .areturn ∧ t.isReference = true ∧ w.isRef = true))
    (hd : decode c.code pc = .ok (i, 1)) (hlk : meth.locks = false) (hc : cells ≤ cm) (hs : slots ≤ sm) (hq : Q (some w) T.heap locs) : RunH Z EL p e s below Q cm sm T (mkF m pc Ls (w :: rest)) := by
  obtain ⟨fs, hr, hrun, hended, h1, h2, h3, h4⟩ := X.leaveW hS hn (v := some w) (fun h => by rw [hret] at h; cases h) hlk
  have C' := C.trans (CHv.at X hZ hEL C.1)
  subst hh eT
  exact ⟨_, _, retOut X hx hret hn' hi hd hr, hrun, hended, _, _, rfl, hq, C', h1, h2, h3, h4.mono hc hs⟩
theorem selP {s : State} {args : Array Value} {y : MethodName} {n : Nat} (wi : (Cond.instantiable y.cls n).before args s = true) (hpriv : s.PrivateAt y) (hinst : (Cond.instanceMethod y).before args s = true) (hy : y.cls ≠ "java/lang/invoke/MethodHandle" ∧ y.cls ≠ "java/lang/invoke/VarHandle") : (Cond.selects y.cls y y).before args s = true := by
  have w := wi
  obtain ⟨c, k, h1, h2, -⟩ := Cond.instantiable_spec wi
  refine selects_self_of_private h1 h2 ?_ hpriv hinst hy
  simp [Cond.before, Cond.holds, Cond.value, h1, h2] at w
  exact w.1.1.2.1
end Held
section NoIns
variable {Z : State} {a0 : Array Value} {O C S K : String} {n : Nat}
theorem NS.rootI (w : (Cond.noSuperclass O).before a0 Z = true) (wk : (Cond.instantiable K n).before a0 Z = true) (hn : O ≠ K) : NS Z O K := by
  obtain ⟨c, k, h1, h2, h3, -, -⟩ := Cond.noSuperclass_spec w
  obtain ⟨t, kt, g1, -⟩ := Cond.instantiable_spec wk
  have ne := ids_ne h1 g1 hn
  refine ⟨c, t, h1, g1, fun fuel => ?_⟩
  cases fuel with
  | zero => rfl
  | succ f => simp [Vm.isSubclassAux, ne, h2, h3]
theorem NS.noI (w : (Cond.superclass C S).before a0 Z = true) (wk : (Cond.instantiable K n).before a0 Z = true) (q : NS Z C K) (hn : C ≠ K) : ∃ c t, Z.vm.findClass C = some c ∧ Z.vm.findClass K = some t ∧ Z.vm.assignable c t = false := by
  obtain ⟨c, t, h0, g0, n3⟩ := q
  obtain ⟨p, k, kp, h1, h2, h3, h4, h5, -, h7⟩ := Cond.superclass_spec h0 w
  obtain ⟨t', k', g1, g2, g5, g7, -⟩ := Cond.instantiable_spec wk
  cases g0.symm.trans g1
  have ne := ids_ne h0 g0 hn
  simp only [Bool.or_eq_false_iff] at g7
  refine ⟨c, t, h0, g0, ?_⟩
  show Z.vm.assignableAux (255 + 1) c t = false
  simp [Vm.assignableAux, ne, h2, g2, h5, g5, g7.1, Vm.isSubclass, n3]
end NoIns
end Jvm.Own
namespace Jvm.Pilot.@@N@@
open Jvm Jvm.ClassFile Sem Op Lib Jvm.Free Jvm.Stand Jvm.LawKit Jvm.RoadKit Jvm.Own Bundle Jvm.Pilot.@@N@@.Jvm.D
theorem d6_0 : decode jdk_52_method_21_code 0 = .ok (.iconst 0, 1) := by decide +kernel
theorem d6_1 : decode jdk_52_method_21_code 1 = .ok (.istore 5, 2) := by decide +kernel
theorem d6_3 : decode jdk_52_method_21_code 3 = .ok (.iload 5, 2) := by decide +kernel
theorem d6_5 : decode jdk_52_method_21_code 5 = .ok (.iload 4, 2) := by decide +kernel
theorem d6_7 : decode jdk_52_method_21_code 7 = .ok (.if_icmp .ge 37, 3) := by decide +kernel
theorem d6_10 : decode jdk_52_method_21_code 10 = .ok (.aload_n 0, 1) := by decide +kernel
theorem d6_11 : decode jdk_52_method_21_code 11 = .ok (.iload_n 1, 1) := by decide +kernel
theorem d6_12 : decode jdk_52_method_21_code 12 = .ok (.caload, 1) := by decide +kernel
theorem d6_13 : decode jdk_52_method_21_code 13 = .ok (.istore 6, 2) := by decide +kernel
theorem d6_15 : decode jdk_52_method_21_code 15 = .ok (.iload 6, 2) := by decide +kernel
theorem d6_17 : decode jdk_52_method_21_code 17 = .ok (.sipush 255, 3) := by decide +kernel
theorem d6_20 : decode jdk_52_method_21_code 20 = .ok (.if_icmp .le 6, 3) := by decide +kernel
theorem d6_26 : decode jdk_52_method_21_code 26 = .ok (.aload_n 2, 1) := by decide +kernel
theorem d6_27 : decode jdk_52_method_21_code 27 = .ok (.iload_n 3, 1) := by decide +kernel
theorem d6_28 : decode jdk_52_method_21_code 28 = .ok (.iload 6, 2) := by decide +kernel
theorem d6_30 : decode jdk_52_method_21_code 30 = .ok (.i2b, 1) := by decide +kernel
theorem d6_31 : decode jdk_52_method_21_code 31 = .ok (.bastore, 1) := by decide +kernel
theorem d6_32 : decode jdk_52_method_21_code 32 = .ok (.iinc 1 1, 3) := by decide +kernel
theorem d6_35 : decode jdk_52_method_21_code 35 = .ok (.iinc 3 1, 3) := by decide +kernel
theorem d6_38 : decode jdk_52_method_21_code 38 = .ok (.iinc 5 1, 3) := by decide +kernel
theorem d6_41 : decode jdk_52_method_21_code 41 = .ok (.goto (-38), 3) := by decide +kernel
theorem d6_44 : decode jdk_52_method_21_code 44 = .ok (.iload 4, 2) := by decide +kernel
theorem d6_46 : decode jdk_52_method_21_code 46 = .ok (.ireturn, 1) := by decide +kernel
theorem pn_6 : plainName "java/lang/StringUTF16" = true := by first | (simp [plainName, overriddenIn]; done) | decide +kernel
theorem ef_6n1 (m : MethodId) (x0 : Addr) (x2 : Addr) : entryFrame m #[(.ref x0), (.int (0 : Int32)), (.ref x2), (.int (0 : Int32)), (.int (1 : Int32))] 7 = mkF m 0 #[.val (.ref x0), .val (.int (0 : Int32)), .val (.ref x2), .val (.int (0 : Int32)), .val (.int (1 : Int32)), .unset, .unset] [] := by first | (simp [entryFrame, mkF, argsToLocals, Value.category]; done) | rfl
def Q6n1 (Z : State) (a0 : Addr) (a2 : Addr) (c0 : Int32) (h0 : Heap) (n0 : Nat) (v : Option Value) (h : Heap) (L : List Loc) : Prop := v = some (.int (1 : Int32)) ∧ Fr n0 L ∧ Keep h0 h [a2] ∧ Ary Z h a2 .byte [(.int (nar .byte ((c0).toInt8.toInt32)))]
set_option maxRecDepth 65536 in
set_option maxHeartbeats 40000000 in
theorem rm6n1 (l : Launch) (Z : State) (aw : Array Value) (hw : ∀ d ∈ tables_1, d.before aw Z = true) (ws : List Jvm.Cond) (a0 : Addr) (a2 : Addr) (c0 : Int32) (h0 : Heap) (n0 : Nat) (Z0 : n0 ≤ h0.size) (A_a0 : Ary Z h0 a0 .char [(.int c0)]) (A_a2 : Ary Z h0 a2 .byte [(.int (0 : Int32))]) (n_02 : a0 ≠ a2) (g_a2 : n0 ≤ a2) (hu0 : ¬ ((255 : Int32) < c0)) :
    MetFree l (⟨"java/lang/StringUTF16", "compress", "([CI[BII)I"⟩ : MethodName) (head1 (Jvm.Cond.code (⟨"java/lang/StringUTF16", "compress", "([CI[BII)I"⟩ : MethodName) jdk_52_method_21_code 7 (some .int) :: ws) ({ frames := 0, cells := 0, slots := 0, locals := 0 } : Room)) (fun a U => a = #[(.ref a0), (.int (0 : Int32)), (.ref a2), (.int (0 : Int32)), (.int (1 : Int32))] ∧ Z.Warmed39 U.vm ∧ U.heap = h0) (fun _ _ _ _ _ => True) (fun _ U o U' => ∃ v L, o = .returned v ∧ Q6n1 Z a0 a2 c0 h0 n0 v U'.heap L ∧ FrameEnd U o U' L ({ frames := 0, cells := 0, slots := 0, locals := 0 } : Room).cells ({ frames := 0, cells := 0, slots := 0, locals := 0 } : Room).slots) := by
  refine MetFree.of_bodySF (plainFor_of_name pn_6) hisR ?_
  intro p e s m args below meth c s₁ Bd hml0 hP hK
  obtain ⟨rfl, hZ, hh⟩ := hP
  have hx := Bd.exec
  have hby := Bd.bytes
  have hml : c.maxLocals = 7 := hml0
  have hown : s.vm.findClass "java/lang/StringUTF16" = some m.cls := findClass_of_methodNamed Bd.named
  have hnm := (name_of_methodNamed Bd.named Bd.method).1
  have hlk : meth.locks = false := BodyLoose.notSynchronized Bd
  have X0 : Stand p l e ({ frames := 0, cells := 0, slots := 0, locals := 0 } : Room) s m #[(.ref a0), (.int (0 : Int32)), (.ref a2), (.int (0 : Int32)), (.int (1 : Int32))] below meth c s₁ [] 0 0 := Stand.of_body Bd
  have e0 : s₁.heap = h0 := by rw [← hh, Bd.state]; rfl
  have N0 := Fr.nil n0
  show Run p e s below (Q6n1 Z a0 a2 c0 h0 n0) ({ frames := 0, cells := 0, slots := 0, locals := 0 } : Room).cells ({ frames := 0, cells := 0, slots := 0, locals := 0 } : Room).slots s₁ (entryFrame m #[(.ref a0), (.int (0 : Int32)), (.ref a2), (.int (0 : Int32)), (.int (1 : Int32))] 7)
  rw [ef_6n1]
  show Run _ _ _ _ _ _ _ s₁ (mkF m 0 #[.val (.ref a0), .val (.int (0 : Int32)), .val (.ref a2), .val (.int (0 : Int32)), .val (.int (1 : Int32)), .unset, .unset] [])
  refine go (T' := s₁) (f' := (mkF m 1 #[.val (.ref a0), .val (.int (0 : Int32)), .val (.ref a2), .val (.int (0 : Int32)), .val (.int (1 : Int32)), .unset, .unset] [(.int (0 : Int32))])) (by intro t k; exact XS.iconst X0.here hx rfl (hb hby d6_0) k) ?_
  refine go (T' := s₁) (f' := (mkF m 3 #[.val (.ref a0), .val (.int (0 : Int32)), .val (.ref a2), .val (.int (0 : Int32)), .val (.int (1 : Int32)), .val (.int (0 : Int32)), .unset] [])) (by intro t k; exact XS.istore X0.here hx rfl (hb hby d6_1) rfl (l' := #[.val (.ref a0), .val (.int (0 : Int32)), .val (.ref a2), .val (.int (0 : Int32)), .val (.int (1 : Int32)), .val (.int (0 : Int32)), .unset]) rfl k) ?_
  refine go (T' := s₁) (f' := (mkF m 5 #[.val (.ref a0), .val (.int (0 : Int32)), .val (.ref a2), .val (.int (0 : Int32)), .val (.int (1 : Int32)), .val (.int (0 : Int32)), .unset] [(.int (0 : Int32))])) (by intro t k; exact XS.iload X0.here hx rfl (hb hby d6_3) rfl k) ?_
  refine go (T' := s₁) (f' := (mkF m 7 #[.val (.ref a0), .val (.int (0 : Int32)), .val (.ref a2), .val (.int (0 : Int32)), .val (.int (1 : Int32)), .val (.int (0 : Int32)), .unset] [(.int (1 : Int32)), (.int (0 : Int32))])) (by intro t k; exact XS.iload X0.here hx rfl (hb hby d6_5) rfl k) ?_
  refine go (T' := s₁) (f' := (mkF m 10 #[.val (.ref a0), .val (.int (0 : Int32)), .val (.ref a2), .val (.int (0 : Int32)), .val (.int (1 : Int32)), .val (.int (0 : Int32)), .unset] [])) (by intro t k; exact XS.icmpNo X0.here hx rfl (hb hby d6_7) rfl (tlt (by decide : (0 : Int32) < (1 : Int32))).2.1 k) ?_
  refine go (T' := s₁) (f' := (mkF m 11 #[.val (.ref a0), .val (.int (0 : Int32)), .val (.ref a2), .val (.int (0 : Int32)), .val (.int (1 : Int32)), .val (.int (0 : Int32)), .unset] [(.ref a0)])) (by intro t k; exact XS.aloadN X0.here hx rfl (hb hby d6_10) rfl rfl k) ?_
  refine go (T' := s₁) (f' := (mkF m 12 #[.val (.ref a0), .val (.int (0 : Int32)), .val (.ref a2), .val (.int (0 : Int32)), .val (.int (1 : Int32)), .val (.int (0 : Int32)), .unset] [(.int (0 : Int32)), (.ref a0)])) (by intro t k; exact XS.iloadN X0.here hx rfl (hb hby d6_11) rfl k) ?_
  refine go (T' := s₁) (f' := (mkF m 13 #[.val (.ref a0), .val (.int (0 : Int32)), .val (.ref a2), .val (.int (0 : Int32)), .val (.int (1 : Int32)), .val (.int (0 : Int32)), .unset] [(.int c0)])) (by intro t k; exact ldC X0 hx hZ e0 A_a0 (j := (0 : Int32)) (v := (.int c0)) (by decide) rfl (g := (mkF m 12 #[.val (.ref a0), .val (.int (0 : Int32)), .val (.ref a2), .val (.int (0 : Int32)), .val (.int (1 : Int32)), .val (.int (0 : Int32)), .unset] [(.int (0 : Int32)), (.ref a0)])) rfl rfl (hb hby d6_12) _ k) ?_
  refine go (T' := s₁) (f' := (mkF m 15 #[.val (.ref a0), .val (.int (0 : Int32)), .val (.ref a2), .val (.int (0 : Int32)), .val (.int (1 : Int32)), .val (.int (0 : Int32)), .val (.int c0)] [])) (by intro t k; exact XS.istore X0.here hx rfl (hb hby d6_13) rfl (l' := #[.val (.ref a0), .val (.int (0 : Int32)), .val (.ref a2), .val (.int (0 : Int32)), .val (.int (1 : Int32)), .val (.int (0 : Int32)), .val (.int c0)]) rfl k) ?_
  refine go (T' := s₁) (f' := (mkF m 17 #[.val (.ref a0), .val (.int (0 : Int32)), .val (.ref a2), .val (.int (0 : Int32)), .val (.int (1 : Int32)), .val (.int (0 : Int32)), .val (.int c0)] [(.int c0)])) (by intro t k; exact XS.iload X0.here hx rfl (hb hby d6_15) rfl k) ?_
  refine go (T' := s₁) (f' := (mkF m 20 #[.val (.ref a0), .val (.int (0 : Int32)), .val (.ref a2), .val (.int (0 : Int32)), .val (.int (1 : Int32)), .val (.int (0 : Int32)), .val (.int c0)] [(.int (255 : Int32)), (.int c0)])) (by intro t k; exact XS.sipush X0.here hx rfl (hb hby d6_17) k) ?_
  refine go (T' := s₁) (f' := (mkF m 26 #[.val (.ref a0), .val (.int (0 : Int32)), .val (.ref a2), .val (.int (0 : Int32)), .val (.int (1 : Int32)), .val (.int (0 : Int32)), .val (.int c0)] [])) (by intro t k; exact XS.icmpYes X0.here hx rfl (pc0 := 20) (pc' := 26) rfl (hb hby d6_20) rfl (flt (by first | exact hu0 : ¬ ((255 : Int32) < c0))).2.2.2 (by decide) (by decide) k) ?_
  refine go (T' := s₁) (f' := (mkF m 27 #[.val (.ref a0), .val (.int (0 : Int32)), .val (.ref a2), .val (.int (0 : Int32)), .val (.int (1 : Int32)), .val (.int (0 : Int32)), .val (.int c0)] [(.ref a2)])) (by intro t k; exact XS.aloadN X0.here hx rfl (hb hby d6_26) rfl rfl k) ?_
  refine go (T' := s₁) (f' := (mkF m 28 #[.val (.ref a0), .val (.int (0 : Int32)), .val (.ref a2), .val (.int (0 : Int32)), .val (.int (1 : Int32)), .val (.int (0 : Int32)), .val (.int c0)] [(.int (0 : Int32)), (.ref a2)])) (by intro t k; exact XS.iloadN X0.here hx rfl (hb hby d6_27) rfl k) ?_
  refine go (T' := s₁) (f' := (mkF m 30 #[.val (.ref a0), .val (.int (0 : Int32)), .val (.ref a2), .val (.int (0 : Int32)), .val (.int (1 : Int32)), .val (.int (0 : Int32)), .val (.int c0)] [(.int c0), (.int (0 : Int32)), (.ref a2)])) (by intro t k; exact XS.iload X0.here hx rfl (hb hby d6_28) rfl k) ?_
  refine go (T' := s₁) (f' := (mkF m 31 #[.val (.ref a0), .val (.int (0 : Int32)), .val (.ref a2), .val (.int (0 : Int32)), .val (.int (1 : Int32)), .val (.int (0 : Int32)), .val (.int c0)] [(.int ((c0).toInt8.toInt32)), (.int (0 : Int32)), (.ref a2)])) (by intro t k; exact XS.i2b X0.here hx rfl (hb hby d6_30) rfl k) ?_
  obtain ⟨cl1, Ar1, hin1⟩ := Ary.st (j := (0 : Int32)) A_a2 (by decide) (by show (0 : Int32).toNatClampNeg < 1; decide)
  obtain ⟨T1, h1, X1, e1, W1, st1⟩ := stB X0 hx hZ e0 Ar1 (j := (0 : Int32)) hin1 (g := (mkF m 31 #[.val (.ref a0), .val (.int (0 : Int32)), .val (.ref a2), .val (.int (0 : Int32)), .val (.int (1 : Int32)), .val (.int (0 : Int32)), .val (.int c0)] [(.int ((c0).toInt8.toInt32)), (.int (0 : Int32)), (.ref a2)])) rfl rfl (hb hby d6_31)
  have K1 : Keep h0 h1 [a2] := Keep.of_wr W1
  have V1 : Ary Z h1 a2 .byte [(.int (nar .byte ((c0).toInt8.toInt32)))] := Ary.set A_a2 W1 (fits_nar_byte _)
  have N1 := Fr.snoc X1 N0 g_a2
  have A1_a0 := Ary.keep A_a0 K1 (ninS n_02 nin0)
  have Z1 : n0 ≤ h1.size := Nat.le_trans Z0 K1.1
  have KK1 : Keep h0 h1 [a2] := (Keep.refl _ _).trans K1 (allS (Or.inl (List.mem_of_getElem? (i := 0) rfl)) all0)
  refine go st1 ?_
  show Run _ _ _ _ _ _ _ T1 (mkF m 32 #[.val (.ref a0), .val (.int (0 : Int32)), .val (.ref a2), .val (.int (0 : Int32)), .val (.int (1 : Int32)), .val (.int (0 : Int32)), .val (.int c0)] [])
  refine go (T' := T1) (f' := (mkF m 35 #[.val (.ref a0), .val (.int (1 : Int32)), .val (.ref a2), .val (.int (0 : Int32)), .val (.int (1 : Int32)), .val (.int (0 : Int32)), .val (.int c0)] [])) (by intro t k; exact XS.iinc X1.here hx rfl (hb hby d6_32) rfl (l' := #[.val (.ref a0), .val (.int (1 : Int32)), .val (.ref a2), .val (.int (0 : Int32)), .val (.int (1 : Int32)), .val (.int (0 : Int32)), .val (.int c0)]) rfl k) ?_
  refine go (T' := T1) (f' := (mkF m 38 #[.val (.ref a0), .val (.int (1 : Int32)), .val (.ref a2), .val (.int (1 : Int32)), .val (.int (1 : Int32)), .val (.int (0 : Int32)), .val (.int c0)] [])) (by intro t k; exact XS.iinc X1.here hx rfl (hb hby d6_35) rfl (l' := #[.val (.ref a0), .val (.int (1 : Int32)), .val (.ref a2), .val (.int (1 : Int32)), .val (.int (1 : Int32)), .val (.int (0 : Int32)), .val (.int c0)]) rfl k) ?_
  refine go (T' := T1) (f' := (mkF m 41 #[.val (.ref a0), .val (.int (1 : Int32)), .val (.ref a2), .val (.int (1 : Int32)), .val (.int (1 : Int32)), .val (.int (1 : Int32)), .val (.int c0)] [])) (by intro t k; exact XS.iinc X1.here hx rfl (hb hby d6_38) rfl (l' := #[.val (.ref a0), .val (.int (1 : Int32)), .val (.ref a2), .val (.int (1 : Int32)), .val (.int (1 : Int32)), .val (.int (1 : Int32)), .val (.int c0)]) rfl k) ?_
  refine go (T' := T1) (f' := (mkF m 3 #[.val (.ref a0), .val (.int (1 : Int32)), .val (.ref a2), .val (.int (1 : Int32)), .val (.int (1 : Int32)), .val (.int (1 : Int32)), .val (.int c0)] [])) (by intro t k; exact XS.goto X1.here hx rfl (pc0 := 41) (pc' := 3) rfl (hb hby d6_41) (by decide) (by decide) k) ?_
  refine go (T' := T1) (f' := (mkF m 5 #[.val (.ref a0), .val (.int (1 : Int32)), .val (.ref a2), .val (.int (1 : Int32)), .val (.int (1 : Int32)), .val (.int (1 : Int32)), .val (.int c0)] [(.int (1 : Int32))])) (by intro t k; exact XS.iload X1.here hx rfl (hb hby d6_3) rfl k) ?_
  refine go (T' := T1) (f' := (mkF m 7 #[.val (.ref a0), .val (.int (1 : Int32)), .val (.ref a2), .val (.int (1 : Int32)), .val (.int (1 : Int32)), .val (.int (1 : Int32)), .val (.int c0)] [(.int (1 : Int32)), (.int (1 : Int32))])) (by intro t k; exact XS.iload X1.here hx rfl (hb hby d6_5) rfl k) ?_
  refine go (T' := T1) (f' := (mkF m 44 #[.val (.ref a0), .val (.int (1 : Int32)), .val (.ref a2), .val (.int (1 : Int32)), .val (.int (1 : Int32)), .val (.int (1 : Int32)), .val (.int c0)] [])) (by intro t k; exact XS.icmpYes X1.here hx rfl (pc0 := 7) (pc' := 44) rfl (hb hby d6_7) rfl (flt (by decide : ¬ ((1 : Int32) < (1 : Int32)))).2.1 (by decide) (by decide) k) ?_
  refine go (T' := T1) (f' := (mkF m 46 #[.val (.ref a0), .val (.int (1 : Int32)), .val (.ref a2), .val (.int (1 : Int32)), .val (.int (1 : Int32)), .val (.int (1 : Int32)), .val (.int c0)] [(.int (1 : Int32))])) (by intro t k; exact XS.iload X1.here hx rfl (hb hby d6_44) rfl k) ?_
  refine retW X1 hx (t := .int) Bd.returns rfl (Or.inl ⟨rfl, Or.inl rfl, _, rfl⟩) (hb hby d6_46) hlk (by decide) (by decide) ?_
  show Q6n1 Z a0 a2 c0 h0 n0 _ T1.heap _
  rw [e1]
  have hv : (some (.int (1 : Int32)) : Option Value) = some (.int (1 : Int32)) := rfl
  exact ⟨hv, N1, KK1, V1⟩
theorem ef_6n2 (m : MethodId) (x0 : Addr) (x2 : Addr) : entryFrame m #[(.ref x0), (.int (0 : Int32)), (.ref x2), (.int (0 : Int32)), (.int (2 : Int32))] 7 = mkF m 0 #[.val (.ref x0), .val (.int (0 : Int32)), .val (.ref x2), .val (.int (0 : Int32)), .val (.int (2 : Int32)), .unset, .unset] [] := by first | (simp [entryFrame, mkF, argsToLocals, Value.category]; done) | rfl
def Q6n2 (Z : State) (a0 : Addr) (a2 : Addr) (c0 c1 : Int32) (h0 : Heap) (n0 : Nat) (v : Option Value) (h : Heap) (L : List Loc) : Prop := v = some (.int (2 : Int32)) ∧ Fr n0 L ∧ Keep h0 h [a2] ∧ Ary Z h a2 .byte [(.int (nar .byte ((c0).toInt8.toInt32))), (.int (nar .byte ((c1).toInt8.toInt32)))]
set_option maxRecDepth 65536 in
set_option maxHeartbeats 40000000 in
theorem rm6n2 (l : Launch) (Z : State) (aw : Array Value) (hw : ∀ d ∈ tables_1, d.before aw Z = true) (ws : List Jvm.Cond) (a0 : Addr) (a2 : Addr) (c0 c1 : Int32) (h0 : Heap) (n0 : Nat) (Z0 : n0 ≤ h0.size) (A_a0 : Ary Z h0 a0 .char [(.int c0), (.int c1)]) (A_a2 : Ary Z h0 a2 .byte [(.int (0 : Int32)), (.int (0 : Int32))]) (n_02 : a0 ≠ a2) (g_a2 : n0 ≤ a2) (hu0 : ¬ ((255 : Int32) < c0)) (hu1 : ¬ ((255 : Int32) < c1)) :
    MetFree l (⟨"java/lang/StringUTF16", "compress", "([CI[BII)I"⟩ : MethodName) (head1 (Jvm.Cond.code (⟨"java/lang/StringUTF16", "compress", "([CI[BII)I"⟩ : MethodName) jdk_52_method_21_code 7 (some .int) :: ws) ({ frames := 0, cells := 0, slots := 0, locals := 0 } : Room)) (fun a U => a = #[(.ref a0), (.int (0 : Int32)), (.ref a2), (.int (0 : Int32)), (.int (2 : Int32))] ∧ Z.Warmed39 U.vm ∧ U.heap = h0) (fun _ _ _ _ _ => True) (fun _ U o U' => ∃ v L, o = .returned v ∧ Q6n2 Z a0 a2 c0 c1 h0 n0 v U'.heap L ∧ FrameEnd U o U' L ({ frames := 0, cells := 0, slots := 0, locals := 0 } : Room).cells ({ frames := 0, cells := 0, slots := 0, locals := 0 } : Room).slots) := by
  refine MetFree.of_bodySF (plainFor_of_name pn_6) hisR ?_
  intro p e s m args below meth c s₁ Bd hml0 hP hK
  obtain ⟨rfl, hZ, hh⟩ := hP
  have hx := Bd.exec
  have hby := Bd.bytes
  have hml : c.maxLocals = 7 := hml0
  have hown : s.vm.findClass "java/lang/StringUTF16" = some m.cls := findClass_of_methodNamed Bd.named
  have hnm := (name_of_methodNamed Bd.named Bd.method).1
  have hlk : meth.locks = false := BodyLoose.notSynchronized Bd
  have X0 : Stand p l e ({ frames := 0, cells := 0, slots := 0, locals := 0 } : Room) s m #[(.ref a0), (.int (0 : Int32)), (.ref a2), (.int (0 : Int32)), (.int (2 : Int32))] below meth c s₁ [] 0 0 := Stand.of_body Bd
  have e0 : s₁.heap = h0 := by rw [← hh, Bd.state]; rfl
  have N0 := Fr.nil n0
  show Run p e s below (Q6n2 Z a0 a2 c0 c1 h0 n0) ({ frames := 0, cells := 0, slots := 0, locals := 0 } : Room).cells ({ frames := 0, cells := 0, slots := 0, locals := 0 } : Room).slots s₁ (entryFrame m #[(.ref a0), (.int (0 : Int32)), (.ref a2), (.int (0 : Int32)), (.int (2 : Int32))] 7)
  rw [ef_6n2]
  show Run _ _ _ _ _ _ _ s₁ (mkF m 0 #[.val (.ref a0), .val (.int (0 : Int32)), .val (.ref a2), .val (.int (0 : Int32)), .val (.int (2 : Int32)), .unset, .unset] [])
  refine go (T' := s₁) (f' := (mkF m 1 #[.val (.ref a0), .val (.int (0 : Int32)), .val (.ref a2), .val (.int (0 : Int32)), .val (.int (2 : Int32)), .unset, .unset] [(.int (0 : Int32))])) (by intro t k; exact XS.iconst X0.here hx rfl (hb hby d6_0) k) ?_
  refine go (T' := s₁) (f' := (mkF m 3 #[.val (.ref a0), .val (.int (0 : Int32)), .val (.ref a2), .val (.int (0 : Int32)), .val (.int (2 : Int32)), .val (.int (0 : Int32)), .unset] [])) (by intro t k; exact XS.istore X0.here hx rfl (hb hby d6_1) rfl (l' := #[.val (.ref a0), .val (.int (0 : Int32)), .val (.ref a2), .val (.int (0 : Int32)), .val (.int (2 : Int32)), .val (.int (0 : Int32)), .unset]) rfl k) ?_
  refine go (T' := s₁) (f' := (mkF m 5 #[.val (.ref a0), .val (.int (0 : Int32)), .val (.ref a2), .val (.int (0 : Int32)), .val (.int (2 : Int32)), .val (.int (0 : Int32)), .unset] [(.int (0 : Int32))])) (by intro t k; exact XS.iload X0.here hx rfl (hb hby d6_3) rfl k) ?_
  refine go (T' := s₁) (f' := (mkF m 7 #[.val (.ref a0), .val (.int (0 : Int32)), .val (.ref a2), .val (.int (0 : Int32)), .val (.int (2 : Int32)), .val (.int (0 : Int32)), .unset] [(.int (2 : Int32)), (.int (0 : Int32))])) (by intro t k; exact XS.iload X0.here hx rfl (hb hby d6_5) rfl k) ?_
  refine go (T' := s₁) (f' := (mkF m 10 #[.val (.ref a0), .val (.int (0 : Int32)), .val (.ref a2), .val (.int (0 : Int32)), .val (.int (2 : Int32)), .val (.int (0 : Int32)), .unset] [])) (by intro t k; exact XS.icmpNo X0.here hx rfl (hb hby d6_7) rfl (tlt (by decide : (0 : Int32) < (2 : Int32))).2.1 k) ?_
  refine go (T' := s₁) (f' := (mkF m 11 #[.val (.ref a0), .val (.int (0 : Int32)), .val (.ref a2), .val (.int (0 : Int32)), .val (.int (2 : Int32)), .val (.int (0 : Int32)), .unset] [(.ref a0)])) (by intro t k; exact XS.aloadN X0.here hx rfl (hb hby d6_10) rfl rfl k) ?_
  refine go (T' := s₁) (f' := (mkF m 12 #[.val (.ref a0), .val (.int (0 : Int32)), .val (.ref a2), .val (.int (0 : Int32)), .val (.int (2 : Int32)), .val (.int (0 : Int32)), .unset] [(.int (0 : Int32)), (.ref a0)])) (by intro t k; exact XS.iloadN X0.here hx rfl (hb hby d6_11) rfl k) ?_
  refine go (T' := s₁) (f' := (mkF m 13 #[.val (.ref a0), .val (.int (0 : Int32)), .val (.ref a2), .val (.int (0 : Int32)), .val (.int (2 : Int32)), .val (.int (0 : Int32)), .unset] [(.int c0)])) (by intro t k; exact ldC X0 hx hZ e0 A_a0 (j := (0 : Int32)) (v := (.int c0)) (by decide) rfl (g := (mkF m 12 #[.val (.ref a0), .val (.int (0 : Int32)), .val (.ref a2), .val (.int (0 : Int32)), .val (.int (2 : Int32)), .val (.int (0 : Int32)), .unset] [(.int (0 : Int32)), (.ref a0)])) rfl rfl (hb hby d6_12) _ k) ?_
  refine go (T' := s₁) (f' := (mkF m 15 #[.val (.ref a0), .val (.int (0 : Int32)), .val (.ref a2), .val (.int (0 : Int32)), .val (.int (2 : Int32)), .val (.int (0 : Int32)), .val (.int c0)] [])) (by intro t k; exact XS.istore X0.here hx rfl (hb hby d6_13) rfl (l' := #[.val (.ref a0), .val (.int (0 : Int32)), .val (.ref a2), .val (.int (0 : Int32)), .val (.int (2 : Int32)), .val (.int (0 : Int32)), .val (.int c0)]) rfl k) ?_
  refine go (T' := s₁) (f' := (mkF m 17 #[.val (.ref a0), .val (.int (0 : Int32)), .val (.ref a2), .val (.int (0 : Int32)), .val (.int (2 : Int32)), .val (.int (0 : Int32)), .val (.int c0)] [(.int c0)])) (by intro t k; exact XS.iload X0.here hx rfl (hb hby d6_15) rfl k) ?_
  refine go (T' := s₁) (f' := (mkF m 20 #[.val (.ref a0), .val (.int (0 : Int32)), .val (.ref a2), .val (.int (0 : Int32)), .val (.int (2 : Int32)), .val (.int (0 : Int32)), .val (.int c0)] [(.int (255 : Int32)), (.int c0)])) (by intro t k; exact XS.sipush X0.here hx rfl (hb hby d6_17) k) ?_
  refine go (T' := s₁) (f' := (mkF m 26 #[.val (.ref a0), .val (.int (0 : Int32)), .val (.ref a2), .val (.int (0 : Int32)), .val (.int (2 : Int32)), .val (.int (0 : Int32)), .val (.int c0)] [])) (by intro t k; exact XS.icmpYes X0.here hx rfl (pc0 := 20) (pc' := 26) rfl (hb hby d6_20) rfl (flt (by first | exact hu0 | exact hu1 : ¬ ((255 : Int32) < c0))).2.2.2 (by decide) (by decide) k) ?_
  refine go (T' := s₁) (f' := (mkF m 27 #[.val (.ref a0), .val (.int (0 : Int32)), .val (.ref a2), .val (.int (0 : Int32)), .val (.int (2 : Int32)), .val (.int (0 : Int32)), .val (.int c0)] [(.ref a2)])) (by intro t k; exact XS.aloadN X0.here hx rfl (hb hby d6_26) rfl rfl k) ?_
  refine go (T' := s₁) (f' := (mkF m 28 #[.val (.ref a0), .val (.int (0 : Int32)), .val (.ref a2), .val (.int (0 : Int32)), .val (.int (2 : Int32)), .val (.int (0 : Int32)), .val (.int c0)] [(.int (0 : Int32)), (.ref a2)])) (by intro t k; exact XS.iloadN X0.here hx rfl (hb hby d6_27) rfl k) ?_
  refine go (T' := s₁) (f' := (mkF m 30 #[.val (.ref a0), .val (.int (0 : Int32)), .val (.ref a2), .val (.int (0 : Int32)), .val (.int (2 : Int32)), .val (.int (0 : Int32)), .val (.int c0)] [(.int c0), (.int (0 : Int32)), (.ref a2)])) (by intro t k; exact XS.iload X0.here hx rfl (hb hby d6_28) rfl k) ?_
  refine go (T' := s₁) (f' := (mkF m 31 #[.val (.ref a0), .val (.int (0 : Int32)), .val (.ref a2), .val (.int (0 : Int32)), .val (.int (2 : Int32)), .val (.int (0 : Int32)), .val (.int c0)] [(.int ((c0).toInt8.toInt32)), (.int (0 : Int32)), (.ref a2)])) (by intro t k; exact XS.i2b X0.here hx rfl (hb hby d6_30) rfl k) ?_
  obtain ⟨cl1, Ar1, hin1⟩ := Ary.st (j := (0 : Int32)) A_a2 (by decide) (by show (0 : Int32).toNatClampNeg < 2; decide)
  obtain ⟨T1, h1, X1, e1, W1, st1⟩ := stB X0 hx hZ e0 Ar1 (j := (0 : Int32)) hin1 (g := (mkF m 31 #[.val (.ref a0), .val (.int (0 : Int32)), .val (.ref a2), .val (.int (0 : Int32)), .val (.int (2 : Int32)), .val (.int (0 : Int32)), .val (.int c0)] [(.int ((c0).toInt8.toInt32)), (.int (0 : Int32)), (.ref a2)])) rfl rfl (hb hby d6_31)
  have K1 : Keep h0 h1 [a2] := Keep.of_wr W1
  have V1 : Ary Z h1 a2 .byte [(.int (nar .byte ((c0).toInt8.toInt32))), (.int (0 : Int32))] := Ary.set A_a2 W1 (fits_nar_byte _)
  have N1 := Fr.snoc X1 N0 g_a2
  have A1_a0 := Ary.keep A_a0 K1 (ninS n_02 nin0)
  have Z1 : n0 ≤ h1.size := Nat.le_trans Z0 K1.1
  have KK1 : Keep h0 h1 [a2] := (Keep.refl _ _).trans K1 (allS (Or.inl (List.mem_of_getElem? (i := 0) rfl)) all0)
  refine go st1 ?_
  show Run _ _ _ _ _ _ _ T1 (mkF m 32 #[.val (.ref a0), .val (.int (0 : Int32)), .val (.ref a2), .val (.int (0 : Int32)), .val (.int (2 : Int32)), .val (.int (0 : Int32)), .val (.int c0)] [])
  refine go (T' := T1) (f' := (mkF m 35 #[.val (.ref a0), .val (.int (1 : Int32)), .val (.ref a2), .val (.int (0 : Int32)), .val (.int (2 : Int32)), .val (.int (0 : Int32)), .val (.int c0)] [])) (by intro t k; exact XS.iinc X1.here hx rfl (hb hby d6_32) rfl (l' := #[.val (.ref a0), .val (.int (1 : Int32)), .val (.ref a2), .val (.int (0 : Int32)), .val (.int (2 : Int32)), .val (.int (0 : Int32)), .val (.int c0)]) rfl k) ?_
  refine go (T' := T1) (f' := (mkF m 38 #[.val (.ref a0), .val (.int (1 : Int32)), .val (.ref a2), .val (.int (1 : Int32)), .val (.int (2 : Int32)), .val (.int (0 : Int32)), .val (.int c0)] [])) (by intro t k; exact XS.iinc X1.here hx rfl (hb hby d6_35) rfl (l' := #[.val (.ref a0), .val (.int (1 : Int32)), .val (.ref a2), .val (.int (1 : Int32)), .val (.int (2 : Int32)), .val (.int (0 : Int32)), .val (.int c0)]) rfl k) ?_
  refine go (T' := T1) (f' := (mkF m 41 #[.val (.ref a0), .val (.int (1 : Int32)), .val (.ref a2), .val (.int (1 : Int32)), .val (.int (2 : Int32)), .val (.int (1 : Int32)), .val (.int c0)] [])) (by intro t k; exact XS.iinc X1.here hx rfl (hb hby d6_38) rfl (l' := #[.val (.ref a0), .val (.int (1 : Int32)), .val (.ref a2), .val (.int (1 : Int32)), .val (.int (2 : Int32)), .val (.int (1 : Int32)), .val (.int c0)]) rfl k) ?_
  refine go (T' := T1) (f' := (mkF m 3 #[.val (.ref a0), .val (.int (1 : Int32)), .val (.ref a2), .val (.int (1 : Int32)), .val (.int (2 : Int32)), .val (.int (1 : Int32)), .val (.int c0)] [])) (by intro t k; exact XS.goto X1.here hx rfl (pc0 := 41) (pc' := 3) rfl (hb hby d6_41) (by decide) (by decide) k) ?_
  refine go (T' := T1) (f' := (mkF m 5 #[.val (.ref a0), .val (.int (1 : Int32)), .val (.ref a2), .val (.int (1 : Int32)), .val (.int (2 : Int32)), .val (.int (1 : Int32)), .val (.int c0)] [(.int (1 : Int32))])) (by intro t k; exact XS.iload X1.here hx rfl (hb hby d6_3) rfl k) ?_
  refine go (T' := T1) (f' := (mkF m 7 #[.val (.ref a0), .val (.int (1 : Int32)), .val (.ref a2), .val (.int (1 : Int32)), .val (.int (2 : Int32)), .val (.int (1 : Int32)), .val (.int c0)] [(.int (2 : Int32)), (.int (1 : Int32))])) (by intro t k; exact XS.iload X1.here hx rfl (hb hby d6_5) rfl k) ?_
  refine go (T' := T1) (f' := (mkF m 10 #[.val (.ref a0), .val (.int (1 : Int32)), .val (.ref a2), .val (.int (1 : Int32)), .val (.int (2 : Int32)), .val (.int (1 : Int32)), .val (.int c0)] [])) (by intro t k; exact XS.icmpNo X1.here hx rfl (hb hby d6_7) rfl (tlt (by decide : (1 : Int32) < (2 : Int32))).2.1 k) ?_
  refine go (T' := T1) (f' := (mkF m 11 #[.val (.ref a0), .val (.int (1 : Int32)), .val (.ref a2), .val (.int (1 : Int32)), .val (.int (2 : Int32)), .val (.int (1 : Int32)), .val (.int c0)] [(.ref a0)])) (by intro t k; exact XS.aloadN X1.here hx rfl (hb hby d6_10) rfl rfl k) ?_
  refine go (T' := T1) (f' := (mkF m 12 #[.val (.ref a0), .val (.int (1 : Int32)), .val (.ref a2), .val (.int (1 : Int32)), .val (.int (2 : Int32)), .val (.int (1 : Int32)), .val (.int c0)] [(.int (1 : Int32)), (.ref a0)])) (by intro t k; exact XS.iloadN X1.here hx rfl (hb hby d6_11) rfl k) ?_
  refine go (T' := T1) (f' := (mkF m 13 #[.val (.ref a0), .val (.int (1 : Int32)), .val (.ref a2), .val (.int (1 : Int32)), .val (.int (2 : Int32)), .val (.int (1 : Int32)), .val (.int c0)] [(.int c1)])) (by intro t k; exact ldC X1 hx hZ e1 A1_a0 (j := (1 : Int32)) (v := (.int c1)) (by decide) rfl (g := (mkF m 12 #[.val (.ref a0), .val (.int (1 : Int32)), .val (.ref a2), .val (.int (1 : Int32)), .val (.int (2 : Int32)), .val (.int (1 : Int32)), .val (.int c0)] [(.int (1 : Int32)), (.ref a0)])) rfl rfl (hb hby d6_12) _ k) ?_
  refine go (T' := T1) (f' := (mkF m 15 #[.val (.ref a0), .val (.int (1 : Int32)), .val (.ref a2), .val (.int (1 : Int32)), .val (.int (2 : Int32)), .val (.int (1 : Int32)), .val (.int c1)] [])) (by intro t k; exact XS.istore X1.here hx rfl (hb hby d6_13) rfl (l' := #[.val (.ref a0), .val (.int (1 : Int32)), .val (.ref a2), .val (.int (1 : Int32)), .val (.int (2 : Int32)), .val (.int (1 : Int32)), .val (.int c1)]) rfl k) ?_
  refine go (T' := T1) (f' := (mkF m 17 #[.val (.ref a0), .val (.int (1 : Int32)), .val (.ref a2), .val (.int (1 : Int32)), .val (.int (2 : Int32)), .val (.int (1 : Int32)), .val (.int c1)] [(.int c1)])) (by intro t k; exact XS.iload X1.here hx rfl (hb hby d6_15) rfl k) ?_
  refine go (T' := T1) (f' := (mkF m 20 #[.val (.ref a0), .val (.int (1 : Int32)), .val (.ref a2), .val (.int (1 : Int32)), .val (.int (2 : Int32)), .val (.int (1 : Int32)), .val (.int c1)] [(.int (255 : Int32)), (.int c1)])) (by intro t k; exact XS.sipush X1.here hx rfl (hb hby d6_17) k) ?_
  refine go (T' := T1) (f' := (mkF m 26 #[.val (.ref a0), .val (.int (1 : Int32)), .val (.ref a2), .val (.int (1 : Int32)), .val (.int (2 : Int32)), .val (.int (1 : Int32)), .val (.int c1)] [])) (by intro t k; exact XS.icmpYes X1.here hx rfl (pc0 := 20) (pc' := 26) rfl (hb hby d6_20) rfl (flt (by first | exact hu0 | exact hu1 : ¬ ((255 : Int32) < c1))).2.2.2 (by decide) (by decide) k) ?_
  refine go (T' := T1) (f' := (mkF m 27 #[.val (.ref a0), .val (.int (1 : Int32)), .val (.ref a2), .val (.int (1 : Int32)), .val (.int (2 : Int32)), .val (.int (1 : Int32)), .val (.int c1)] [(.ref a2)])) (by intro t k; exact XS.aloadN X1.here hx rfl (hb hby d6_26) rfl rfl k) ?_
  refine go (T' := T1) (f' := (mkF m 28 #[.val (.ref a0), .val (.int (1 : Int32)), .val (.ref a2), .val (.int (1 : Int32)), .val (.int (2 : Int32)), .val (.int (1 : Int32)), .val (.int c1)] [(.int (1 : Int32)), (.ref a2)])) (by intro t k; exact XS.iloadN X1.here hx rfl (hb hby d6_27) rfl k) ?_
  refine go (T' := T1) (f' := (mkF m 30 #[.val (.ref a0), .val (.int (1 : Int32)), .val (.ref a2), .val (.int (1 : Int32)), .val (.int (2 : Int32)), .val (.int (1 : Int32)), .val (.int c1)] [(.int c1), (.int (1 : Int32)), (.ref a2)])) (by intro t k; exact XS.iload X1.here hx rfl (hb hby d6_28) rfl k) ?_
  refine go (T' := T1) (f' := (mkF m 31 #[.val (.ref a0), .val (.int (1 : Int32)), .val (.ref a2), .val (.int (1 : Int32)), .val (.int (2 : Int32)), .val (.int (1 : Int32)), .val (.int c1)] [(.int ((c1).toInt8.toInt32)), (.int (1 : Int32)), (.ref a2)])) (by intro t k; exact XS.i2b X1.here hx rfl (hb hby d6_30) rfl k) ?_
  obtain ⟨cl2, Ar2, hin2⟩ := Ary.st (j := (1 : Int32)) V1 (by decide) (by show (1 : Int32).toNatClampNeg < 2; decide)
  obtain ⟨T2, h2, X2, e2, W2, st2⟩ := stB X1 hx hZ e1 Ar2 (j := (1 : Int32)) hin2 (g := (mkF m 31 #[.val (.ref a0), .val (.int (1 : Int32)), .val (.ref a2), .val (.int (1 : Int32)), .val (.int (2 : Int32)), .val (.int (1 : Int32)), .val (.int c1)] [(.int ((c1).toInt8.toInt32)), (.int (1 : Int32)), (.ref a2)])) rfl rfl (hb hby d6_31)
  have K2 : Keep h1 h2 [a2] := Keep.of_wr W2
  have V2 : Ary Z h2 a2 .byte [(.int (nar .byte ((c0).toInt8.toInt32))), (.int (nar .byte ((c1).toInt8.toInt32)))] := Ary.set V1 W2 (fits_nar_byte _)
  have N2 := Fr.snoc X2 N1 g_a2
  have A2_a0 := Ary.keep A1_a0 K2 (ninS n_02 nin0)
  have Z2 : n0 ≤ h2.size := Nat.le_trans Z1 K2.1
  have KK2 : Keep h0 h2 [a2] := KK1.trans K2 (allS (Or.inl (List.mem_of_getElem? (i := 0) rfl)) all0)
  refine go st2 ?_
  show Run _ _ _ _ _ _ _ T2 (mkF m 32 #[.val (.ref a0), .val (.int (1 : Int32)), .val (.ref a2), .val (.int (1 : Int32)), .val (.int (2 : Int32)), .val (.int (1 : Int32)), .val (.int c1)] [])
  refine go (T' := T2) (f' := (mkF m 35 #[.val (.ref a0), .val (.int (2 : Int32)), .val (.ref a2), .val (.int (1 : Int32)), .val (.int (2 : Int32)), .val (.int (1 : Int32)), .val (.int c1)] [])) (by intro t k; exact XS.iinc X2.here hx rfl (hb hby d6_32) rfl (l' := #[.val (.ref a0), .val (.int (2 : Int32)), .val (.ref a2), .val (.int (1 : Int32)), .val (.int (2 : Int32)), .val (.int (1 : Int32)), .val (.int c1)]) rfl k) ?_
  refine go (T' := T2) (f' := (mkF m 38 #[.val (.ref a0), .val (.int (2 : Int32)), .val (.ref a2), .val (.int (2 : Int32)), .val (.int (2 : Int32)), .val (.int (1 : Int32)), .val (.int c1)] [])) (by intro t k; exact XS.iinc X2.here hx rfl (hb hby d6_35) rfl (l' := #[.val (.ref a0), .val (.int (2 : Int32)), .val (.ref a2), .val (.int (2 : Int32)), .val (.int (2 : Int32)), .val (.int (1 : Int32)), .val (.int c1)]) rfl k) ?_
  refine go (T' := T2) (f' := (mkF m 41 #[.val (.ref a0), .val (.int (2 : Int32)), .val (.ref a2), .val (.int (2 : Int32)), .val (.int (2 : Int32)), .val (.int (2 : Int32)), .val (.int c1)] [])) (by intro t k; exact XS.iinc X2.here hx rfl (hb hby d6_38) rfl (l' := #[.val (.ref a0), .val (.int (2 : Int32)), .val (.ref a2), .val (.int (2 : Int32)), .val (.int (2 : Int32)), .val (.int (2 : Int32)), .val (.int c1)]) rfl k) ?_
  refine go (T' := T2) (f' := (mkF m 3 #[.val (.ref a0), .val (.int (2 : Int32)), .val (.ref a2), .val (.int (2 : Int32)), .val (.int (2 : Int32)), .val (.int (2 : Int32)), .val (.int c1)] [])) (by intro t k; exact XS.goto X2.here hx rfl (pc0 := 41) (pc' := 3) rfl (hb hby d6_41) (by decide) (by decide) k) ?_
  refine go (T' := T2) (f' := (mkF m 5 #[.val (.ref a0), .val (.int (2 : Int32)), .val (.ref a2), .val (.int (2 : Int32)), .val (.int (2 : Int32)), .val (.int (2 : Int32)), .val (.int c1)] [(.int (2 : Int32))])) (by intro t k; exact XS.iload X2.here hx rfl (hb hby d6_3) rfl k) ?_
  refine go (T' := T2) (f' := (mkF m 7 #[.val (.ref a0), .val (.int (2 : Int32)), .val (.ref a2), .val (.int (2 : Int32)), .val (.int (2 : Int32)), .val (.int (2 : Int32)), .val (.int c1)] [(.int (2 : Int32)), (.int (2 : Int32))])) (by intro t k; exact XS.iload X2.here hx rfl (hb hby d6_5) rfl k) ?_
  refine go (T' := T2) (f' := (mkF m 44 #[.val (.ref a0), .val (.int (2 : Int32)), .val (.ref a2), .val (.int (2 : Int32)), .val (.int (2 : Int32)), .val (.int (2 : Int32)), .val (.int c1)] [])) (by intro t k; exact XS.icmpYes X2.here hx rfl (pc0 := 7) (pc' := 44) rfl (hb hby d6_7) rfl (flt (by decide : ¬ ((2 : Int32) < (2 : Int32)))).2.1 (by decide) (by decide) k) ?_
  refine go (T' := T2) (f' := (mkF m 46 #[.val (.ref a0), .val (.int (2 : Int32)), .val (.ref a2), .val (.int (2 : Int32)), .val (.int (2 : Int32)), .val (.int (2 : Int32)), .val (.int c1)] [(.int (2 : Int32))])) (by intro t k; exact XS.iload X2.here hx rfl (hb hby d6_44) rfl k) ?_
  refine retW X2 hx (t := .int) Bd.returns rfl (Or.inl ⟨rfl, Or.inl rfl, _, rfl⟩) (hb hby d6_46) hlk (by decide) (by decide) ?_
  show Q6n2 Z a0 a2 c0 c1 h0 n0 _ T2.heap _
  rw [e2]
  have hv : (some (.int (2 : Int32)) : Option Value) = some (.int (2 : Int32)) := rfl
  exact ⟨hv, N2, KK2, V2⟩
theorem d5_0 : decode jdk_52_method_16_code 0 = .ok (.iload_n 2, 1) := by decide +kernel
theorem d5_1 : decode jdk_52_method_16_code 1 = .ok (.newarray .byte, 2) := by decide +kernel
theorem d5_3 : decode jdk_52_method_16_code 3 = .ok (.astore_n 3, 1) := by decide +kernel
theorem d5_4 : decode jdk_52_method_16_code 4 = .ok (.aload_n 0, 1) := by decide +kernel
theorem d5_5 : decode jdk_52_method_16_code 5 = .ok (.iload_n 1, 1) := by decide +kernel
theorem d5_6 : decode jdk_52_method_16_code 6 = .ok (.aload_n 3, 1) := by decide +kernel
theorem d5_7 : decode jdk_52_method_16_code 7 = .ok (.iconst 0, 1) := by decide +kernel
theorem d5_8 : decode jdk_52_method_16_code 8 = .ok (.iload_n 2, 1) := by decide +kernel
theorem d5_9 : decode jdk_52_method_16_code 9 = .ok (.invokestatic 115, 3) := by decide +kernel
theorem d5_12 : decode jdk_52_method_16_code 12 = .ok (.istore 4, 2) := by decide +kernel
theorem d5_14 : decode jdk_52_method_16_code 14 = .ok (.iload 4, 2) := by decide +kernel
theorem d5_16 : decode jdk_52_method_16_code 16 = .ok (.iload_n 2, 1) := by decide +kernel
theorem d5_17 : decode jdk_52_method_16_code 17 = .ok (.if_icmp .eq 40, 3) := by decide +kernel
theorem d5_57 : decode jdk_52_method_16_code 57 = .ok (.aload_n 3, 1) := by decide +kernel
theorem d5_58 : decode jdk_52_method_16_code 58 = .ok (.areturn, 1) := by decide +kernel
theorem pd_285bCI5bBII29I : parseMethodDescriptor "([CI[BII)I" = some ⟨[(.array .char), .int, (.array .byte), .int, .int], some .int⟩ := by decide +kernel
theorem ef_5n1 (m : MethodId) (x0 : Addr) : entryFrame m #[(.ref x0), (.int (0 : Int32)), (.int (1 : Int32))] 6 = mkF m 0 #[.val (.ref x0), .val (.int (0 : Int32)), .val (.int (1 : Int32)), .unset, .unset, .unset] [] := by first | (simp [entryFrame, mkF, argsToLocals, Value.category]; done) | rfl
def Q5n1 (Z : State) (a0 : Addr) (c0 : Int32) (h0 : Heap) (n0 : Nat) (v : Option Value) (h : Heap) (L : List Loc) : Prop := ∃ r : Addr, v = some (.ref r) ∧ h0.size ≤ r ∧ Fr n0 L ∧ Keep h0 h [] ∧ Ary Z h r .byte [(.int (nar .byte ((c0).toInt8.toInt32)))]
set_option maxRecDepth 65536 in
set_option maxHeartbeats 40000000 in
theorem rm5n1 (l : Launch) (Z : State) (aw : Array Value) (hw : ∀ d ∈ tables_1, d.before aw Z = true) (ws : List Jvm.Cond) (a0 : Addr) (c0 : Int32) (h0 : Heap) (n0 : Nat) (Z0 : n0 ≤ h0.size) (A_a0 : Ary Z h0 a0 .char [(.int c0)]) (hu0 : ¬ ((255 : Int32) < c0)) :
    MetFree l (⟨"java/lang/StringUTF16", "compress", "([CII)[B"⟩ : MethodName) (head1 (Jvm.Cond.code (⟨"java/lang/StringUTF16", "compress", "([CII)[B"⟩ : MethodName) jdk_52_method_16_code 6 (some (.array .byte)) :: ws) ({ frames := 1, cells := 1, slots := 1, locals := 18 } : Room)) (fun a U => a = #[(.ref a0), (.int (0 : Int32)), (.int (1 : Int32))] ∧ Z.Warmed39 U.vm ∧ U.heap = h0) (fun _ _ _ _ _ => True) (fun _ U o U' => ∃ v L, o = .returned v ∧ Q5n1 Z a0 c0 h0 n0 v U'.heap L ∧ FrameEnd U o U' L ({ frames := 1, cells := 1, slots := 1, locals := 18 } : Room).cells ({ frames := 1, cells := 1, slots := 1, locals := 18 } : Room).slots) := by
  refine MetFree.of_bodySF (plainFor_of_name pn_6) hisR ?_
  intro p e s m args below meth c s₁ Bd hml0 hP hK
  obtain ⟨rfl, hZ, hh⟩ := hP
  have hx := Bd.exec
  have hby := Bd.bytes
  have hml : c.maxLocals = 6 := hml0
  have hown : s.vm.findClass "java/lang/StringUTF16" = some m.cls := findClass_of_methodNamed Bd.named
  have hnm := (name_of_methodNamed Bd.named Bd.method).1
  have hlk : meth.locks = false := BodyLoose.notSynchronized Bd
  have X0 : Stand p l e ({ frames := 1, cells := 1, slots := 1, locals := 18 } : Room) s m #[(.ref a0), (.int (0 : Int32)), (.int (1 : Int32))] below meth c s₁ [] 0 0 := Stand.of_body Bd
  have e0 : s₁.heap = h0 := by rw [← hh, Bd.state]; rfl
  have N0 := Fr.nil n0
  show Run p e s below (Q5n1 Z a0 c0 h0 n0) ({ frames := 1, cells := 1, slots := 1, locals := 18 } : Room).cells ({ frames := 1, cells := 1, slots := 1, locals := 18 } : Room).slots s₁ (entryFrame m #[(.ref a0), (.int (0 : Int32)), (.int (1 : Int32))] 6)
  rw [ef_5n1]
  show Run _ _ _ _ _ _ _ s₁ (mkF m 0 #[.val (.ref a0), .val (.int (0 : Int32)), .val (.int (1 : Int32)), .unset, .unset, .unset] [])
  refine go (T' := s₁) (f' := (mkF m 1 #[.val (.ref a0), .val (.int (0 : Int32)), .val (.int (1 : Int32)), .unset, .unset, .unset] [(.int (1 : Int32))])) (by intro t k; exact XS.iloadN X0.here hx rfl (hb hby d5_0) rfl k) ?_
  obtain ⟨T1, h1, kA1, X1, e1, E1, A1, EX1, st1⟩ := newPE X0 hx hZ (hw _ (List.mem_of_getElem? (i := 23) rfl)) e0 (g := (mkF m 1 #[.val (.ref a0), .val (.int (0 : Int32)), .val (.int (1 : Int32)), .unset, .unset, .unset] [(.int (1 : Int32))])) rfl (hb hby d5_1) rfl (by decide) (cap := 1) (by decide) (by decide) (by decide) (by decide) (ad := "[B") (by decide)
  obtain ⟨b1, g1⟩ : ∃ z, z = h0.size := ⟨_, rfl⟩
  rw [← g1] at A1 EX1 st1
  have ne_a0_b1 : a0 ≠ b1 := Nat.ne_of_lt (Nat.lt_of_lt_of_eq A_a0.lt g1.symm)
  have ge_b1 : n0 ≤ b1 := Nat.le_trans Z0 (Nat.le_of_eq g1.symm)
  have sz_b1 : h0.size ≤ b1 := Nat.le_trans (Keep.refl h0 []).1 (Nat.le_of_eq g1.symm)
  have K1 : Keep h0 h1 [] := (Keep.refl _ _).ext E1
  have A1_a0 := Ary.keep A_a0 K1 nin0
  have Z1 : n0 ≤ h1.size := Nat.le_trans Z0 K1.1
  have KK1 : Keep h0 h1 [] := (Keep.refl _ _).trans K1 all0
  have V1 : Ary Z h1 b1 .byte [(.int (0 : Int32))] := Ary.new A1
  refine go st1 ?_
  show Run _ _ _ _ _ _ _ T1 (mkF m 3 #[.val (.ref a0), .val (.int (0 : Int32)), .val (.int (1 : Int32)), .unset, .unset, .unset] [(.ref b1)])
  refine go (T' := T1) (f' := (mkF m 4 #[.val (.ref a0), .val (.int (0 : Int32)), .val (.int (1 : Int32)), .val (.ref b1), .unset, .unset] [])) (by intro t k; exact XS.astoreN X1.here hx rfl (hb hby d5_3) rfl rfl (l' := #[.val (.ref a0), .val (.int (0 : Int32)), .val (.int (1 : Int32)), .val (.ref b1), .unset, .unset]) rfl k) ?_
  refine go (T' := T1) (f' := (mkF m 5 #[.val (.ref a0), .val (.int (0 : Int32)), .val (.int (1 : Int32)), .val (.ref b1), .unset, .unset] [(.ref a0)])) (by intro t k; exact XS.aloadN X1.here hx rfl (hb hby d5_4) rfl rfl k) ?_
  refine go (T' := T1) (f' := (mkF m 6 #[.val (.ref a0), .val (.int (0 : Int32)), .val (.int (1 : Int32)), .val (.ref b1), .unset, .unset] [(.int (0 : Int32)), (.ref a0)])) (by intro t k; exact XS.iloadN X1.here hx rfl (hb hby d5_5) rfl k) ?_
  refine go (T' := T1) (f' := (mkF m 7 #[.val (.ref a0), .val (.int (0 : Int32)), .val (.int (1 : Int32)), .val (.ref b1), .unset, .unset] [(.ref b1), (.int (0 : Int32)), (.ref a0)])) (by intro t k; exact XS.aloadN X1.here hx rfl (hb hby d5_6) rfl rfl k) ?_
  refine go (T' := T1) (f' := (mkF m 8 #[.val (.ref a0), .val (.int (0 : Int32)), .val (.int (1 : Int32)), .val (.ref b1), .unset, .unset] [(.int (0 : Int32)), (.ref b1), (.int (0 : Int32)), (.ref a0)])) (by intro t k; exact XS.iconst X1.here hx rfl (hb hby d5_7) k) ?_
  refine go (T' := T1) (f' := (mkF m 9 #[.val (.ref a0), .val (.int (0 : Int32)), .val (.int (1 : Int32)), .val (.ref b1), .unset, .unset] [(.int (1 : Int32)), (.int (0 : Int32)), (.ref b1), (.int (0 : Int32)), (.ref a0)])) (by intro t k; exact XS.iloadN X1.here hx rfl (hb hby d5_8) rfl k) ?_
  obtain ⟨_, _, ⟨T2, Lz2, kz2, nz2⟩, -, X2, ⟨Lc2, hQ2, lz2, yz2, zz2⟩, st2⟩ := Jvm.LawKit.callS X1 hx (y := (⟨"java/lang/StringUTF16", "compress", "([CI[BII)I"⟩ : MethodName)) hown (mvT hZ (hw _ (List.mem_of_getElem? (i := 24) rfl))) (mvT hZ (hw _ (List.mem_of_getElem? (i := 25) rfl))) (mvT hZ (hw _ (List.mem_of_getElem? (i := 21) rfl))) (mvT hZ (hw _ (List.mem_of_getElem? (i := 26) rfl))) (by decide) (backOf (W := 0) (rm6n1 l Z aw hw [] a0 b1 c0 h1 n0 Z1 A1_a0 V1 ne_a0_b1 ge_b1 hu0) hZ (hw _ (List.mem_of_getElem? (i := 26) rfl)) (hw _ (List.mem_of_getElem? (i := 21) rfl)) (by decide) (by decide)) (g := (mkF m 9 #[.val (.ref a0), .val (.int (0 : Int32)), .val (.int (1 : Int32)), .val (.ref b1), .unset, .unset] [(.int (1 : Int32)), (.int (0 : Int32)), (.ref b1), (.int (0 : Int32)), (.ref a0)])) rfl (by rw [hml]; rfl) (argsL := [(.ref a0), (.int (0 : Int32)), (.ref b1), (.int (0 : Int32)), (.int (1 : Int32))]) (rest := []) (lenOf pd_285bCI5bBII29I rfl) rfl (by show 2 * 0 + _ ≤ _; exact Nat.le_of_eq rfl) (hb hby d5_9) (fun _ _ => ⟨rfl, e1, (by decide : 1 + 0 ≤ _), (by decide : 1 + 0 ≤ _)⟩)
  dsimp only [Pt.U, Pt.locs, Pt.cells, Pt.slots] at X2 lz2 yz2 zz2 st2 hQ2
  subst lz2 yz2 zz2
  obtain ⟨rfl, N2q, K2, Aq2⟩ := hQ2
  have E2_b1 := Exa.keep EX1 K2
  have A2_a0 := Ary.keep A1_a0 K2 (ninS ne_a0_b1 nin0)
  have Z2 : n0 ≤ T2.heap.size := Nat.le_trans Z1 K2.1
  have KK2 : Keep h0 T2.heap [] := KK1.trans K2 (allS (Or.inr sz_b1) all0)
  have N2 := Fr.app N0 N2q
  refine go st2 ?_
  show Run _ _ _ _ _ _ _ T2 (mkF m 12 #[.val (.ref a0), .val (.int (0 : Int32)), .val (.int (1 : Int32)), .val (.ref b1), .unset, .unset] [(.int (1 : Int32))])
  refine go (T' := T2) (f' := (mkF m 14 #[.val (.ref a0), .val (.int (0 : Int32)), .val (.int (1 : Int32)), .val (.ref b1), .val (.int (1 : Int32)), .unset] [])) (by intro t k; exact XS.istore X2.here hx rfl (hb hby d5_12) rfl (l' := #[.val (.ref a0), .val (.int (0 : Int32)), .val (.int (1 : Int32)), .val (.ref b1), .val (.int (1 : Int32)), .unset]) rfl k) ?_
  refine go (T' := T2) (f' := (mkF m 16 #[.val (.ref a0), .val (.int (0 : Int32)), .val (.int (1 : Int32)), .val (.ref b1), .val (.int (1 : Int32)), .unset] [(.int (1 : Int32))])) (by intro t k; exact XS.iload X2.here hx rfl (hb hby d5_14) rfl k) ?_
  refine go (T' := T2) (f' := (mkF m 17 #[.val (.ref a0), .val (.int (0 : Int32)), .val (.int (1 : Int32)), .val (.ref b1), .val (.int (1 : Int32)), .unset] [(.int (1 : Int32)), (.int (1 : Int32))])) (by intro t k; exact XS.iloadN X2.here hx rfl (hb hby d5_16) rfl k) ?_
  refine go (T' := T2) (f' := (mkF m 57 #[.val (.ref a0), .val (.int (0 : Int32)), .val (.int (1 : Int32)), .val (.ref b1), .val (.int (1 : Int32)), .unset] [])) (by intro t k; exact XS.icmpYes X2.here hx rfl (pc0 := 17) (pc' := 57) rfl (hb hby d5_17) rfl (teq (rfl : (1 : Int32) = (1 : Int32))).1 (by decide) (by decide) k) ?_
  refine go (T' := T2) (f' := (mkF m 58 #[.val (.ref a0), .val (.int (0 : Int32)), .val (.int (1 : Int32)), .val (.ref b1), .val (.int (1 : Int32)), .unset] [(.ref b1)])) (by intro t k; exact XS.aloadN X2.here hx rfl (hb hby d5_57) rfl rfl k) ?_
  refine retW X2 hx (t := (.array .byte)) Bd.returns rfl (Or.inr (Or.inr (Or.inr (Or.inr ⟨rfl, rfl, rfl⟩)))) (hb hby d5_58) hlk (by decide) (by decide) ?_
  show Q5n1 Z a0 c0 h0 n0 _ T2.heap _
  have hv : h0.size ≤ b1 := by
    exact sz_b1
  exact ⟨_, rfl, hv, N2, KK2, Aq2⟩
theorem ef_5n2 (m : MethodId) (x0 : Addr) : entryFrame m #[(.ref x0), (.int (0 : Int32)), (.int (2 : Int32))] 6 = mkF m 0 #[.val (.ref x0), .val (.int (0 : Int32)), .val (.int (2 : Int32)), .unset, .unset, .unset] [] := by first | (simp [entryFrame, mkF, argsToLocals, Value.category]; done) | rfl
def Q5n2 (Z : State) (a0 : Addr) (c0 c1 : Int32) (h0 : Heap) (n0 : Nat) (v : Option Value) (h : Heap) (L : List Loc) : Prop := ∃ r : Addr, v = some (.ref r) ∧ h0.size ≤ r ∧ Fr n0 L ∧ Keep h0 h [] ∧ Ary Z h r .byte [(.int (nar .byte ((c0).toInt8.toInt32))), (.int (nar .byte ((c1).toInt8.toInt32)))]
set_option maxRecDepth 65536 in
set_option maxHeartbeats 40000000 in
theorem rm5n2 (l : Launch) (Z : State) (aw : Array Value) (hw : ∀ d ∈ tables_1, d.before aw Z = true) (ws : List Jvm.Cond) (a0 : Addr) (c0 c1 : Int32) (h0 : Heap) (n0 : Nat) (Z0 : n0 ≤ h0.size) (A_a0 : Ary Z h0 a0 .char [(.int c0), (.int c1)]) (hu0 : ¬ ((255 : Int32) < c0)) (hu1 : ¬ ((255 : Int32) < c1)) :
    MetFree l (⟨"java/lang/StringUTF16", "compress", "([CII)[B"⟩ : MethodName) (head1 (Jvm.Cond.code (⟨"java/lang/StringUTF16", "compress", "([CII)[B"⟩ : MethodName) jdk_52_method_16_code 6 (some (.array .byte)) :: ws) ({ frames := 1, cells := 1, slots := 2, locals := 18 } : Room)) (fun a U => a = #[(.ref a0), (.int (0 : Int32)), (.int (2 : Int32))] ∧ Z.Warmed39 U.vm ∧ U.heap = h0) (fun _ _ _ _ _ => True) (fun _ U o U' => ∃ v L, o = .returned v ∧ Q5n2 Z a0 c0 c1 h0 n0 v U'.heap L ∧ FrameEnd U o U' L ({ frames := 1, cells := 1, slots := 2, locals := 18 } : Room).cells ({ frames := 1, cells := 1, slots := 2, locals := 18 } : Room).slots) := by
  refine MetFree.of_bodySF (plainFor_of_name pn_6) hisR ?_
  intro p e s m args below meth c s₁ Bd hml0 hP hK
  obtain ⟨rfl, hZ, hh⟩ := hP
  have hx := Bd.exec
  have hby := Bd.bytes
  have hml : c.maxLocals = 6 := hml0
  have hown : s.vm.findClass "java/lang/StringUTF16" = some m.cls := findClass_of_methodNamed Bd.named
  have hnm := (name_of_methodNamed Bd.named Bd.method).1
  have hlk : meth.locks = false := BodyLoose.notSynchronized Bd
  have X0 : Stand p l e ({ frames := 1, cells := 1, slots := 2, locals := 18 } : Room) s m #[(.ref a0), (.int (0 : Int32)), (.int (2 : Int32))] below meth c s₁ [] 0 0 := Stand.of_body Bd
  have e0 : s₁.heap = h0 := by rw [← hh, Bd.state]; rfl
  have N0 := Fr.nil n0
  show Run p e s below (Q5n2 Z a0 c0 c1 h0 n0) ({ frames := 1, cells := 1, slots := 2, locals := 18 } : Room).cells ({ frames := 1, cells := 1, slots := 2, locals := 18 } : Room).slots s₁ (entryFrame m #[(.ref a0), (.int (0 : Int32)), (.int (2 : Int32))] 6)
  rw [ef_5n2]
  show Run _ _ _ _ _ _ _ s₁ (mkF m 0 #[.val (.ref a0), .val (.int (0 : Int32)), .val (.int (2 : Int32)), .unset, .unset, .unset] [])
  refine go (T' := s₁) (f' := (mkF m 1 #[.val (.ref a0), .val (.int (0 : Int32)), .val (.int (2 : Int32)), .unset, .unset, .unset] [(.int (2 : Int32))])) (by intro t k; exact XS.iloadN X0.here hx rfl (hb hby d5_0) rfl k) ?_
  obtain ⟨T1, h1, kA1, X1, e1, E1, A1, EX1, st1⟩ := newPE X0 hx hZ (hw _ (List.mem_of_getElem? (i := 23) rfl)) e0 (g := (mkF m 1 #[.val (.ref a0), .val (.int (0 : Int32)), .val (.int (2 : Int32)), .unset, .unset, .unset] [(.int (2 : Int32))])) rfl (hb hby d5_1) rfl (by decide) (cap := 2) (by decide) (by decide) (by decide) (by decide) (ad := "[B") (by decide)
  obtain ⟨b1, g1⟩ : ∃ z, z = h0.size := ⟨_, rfl⟩
  rw [← g1] at A1 EX1 st1
  have ne_a0_b1 : a0 ≠ b1 := Nat.ne_of_lt (Nat.lt_of_lt_of_eq A_a0.lt g1.symm)
  have ge_b1 : n0 ≤ b1 := Nat.le_trans Z0 (Nat.le_of_eq g1.symm)
  have sz_b1 : h0.size ≤ b1 := Nat.le_trans (Keep.refl h0 []).1 (Nat.le_of_eq g1.symm)
  have K1 : Keep h0 h1 [] := (Keep.refl _ _).ext E1
  have A1_a0 := Ary.keep A_a0 K1 nin0
  have Z1 : n0 ≤ h1.size := Nat.le_trans Z0 K1.1
  have KK1 : Keep h0 h1 [] := (Keep.refl _ _).trans K1 all0
  have V1 : Ary Z h1 b1 .byte [(.int (0 : Int32)), (.int (0 : Int32))] := Ary.new A1
  refine go st1 ?_
  show Run _ _ _ _ _ _ _ T1 (mkF m 3 #[.val (.ref a0), .val (.int (0 : Int32)), .val (.int (2 : Int32)), .unset, .unset, .unset] [(.ref b1)])
  refine go (T' := T1) (f' := (mkF m 4 #[.val (.ref a0), .val (.int (0 : Int32)), .val (.int (2 : Int32)), .val (.ref b1), .unset, .unset] [])) (by intro t k; exact XS.astoreN X1.here hx rfl (hb hby d5_3) rfl rfl (l' := #[.val (.ref a0), .val (.int (0 : Int32)), .val (.int (2 : Int32)), .val (.ref b1), .unset, .unset]) rfl k) ?_
  refine go (T' := T1) (f' := (mkF m 5 #[.val (.ref a0), .val (.int (0 : Int32)), .val (.int (2 : Int32)), .val (.ref b1), .unset, .unset] [(.ref a0)])) (by intro t k; exact XS.aloadN X1.here hx rfl (hb hby d5_4) rfl rfl k) ?_
  refine go (T' := T1) (f' := (mkF m 6 #[.val (.ref a0), .val (.int (0 : Int32)), .val (.int (2 : Int32)), .val (.ref b1), .unset, .unset] [(.int (0 : Int32)), (.ref a0)])) (by intro t k; exact XS.iloadN X1.here hx rfl (hb hby d5_5) rfl k) ?_
  refine go (T' := T1) (f' := (mkF m 7 #[.val (.ref a0), .val (.int (0 : Int32)), .val (.int (2 : Int32)), .val (.ref b1), .unset, .unset] [(.ref b1), (.int (0 : Int32)), (.ref a0)])) (by intro t k; exact XS.aloadN X1.here hx rfl (hb hby d5_6) rfl rfl k) ?_
  refine go (T' := T1) (f' := (mkF m 8 #[.val (.ref a0), .val (.int (0 : Int32)), .val (.int (2 : Int32)), .val (.ref b1), .unset, .unset] [(.int (0 : Int32)), (.ref b1), (.int (0 : Int32)), (.ref a0)])) (by intro t k; exact XS.iconst X1.here hx rfl (hb hby d5_7) k) ?_
  refine go (T' := T1) (f' := (mkF m 9 #[.val (.ref a0), .val (.int (0 : Int32)), .val (.int (2 : Int32)), .val (.ref b1), .unset, .unset] [(.int (2 : Int32)), (.int (0 : Int32)), (.ref b1), (.int (0 : Int32)), (.ref a0)])) (by intro t k; exact XS.iloadN X1.here hx rfl (hb hby d5_8) rfl k) ?_
  obtain ⟨_, _, ⟨T2, Lz2, kz2, nz2⟩, -, X2, ⟨Lc2, hQ2, lz2, yz2, zz2⟩, st2⟩ := Jvm.LawKit.callS X1 hx (y := (⟨"java/lang/StringUTF16", "compress", "([CI[BII)I"⟩ : MethodName)) hown (mvT hZ (hw _ (List.mem_of_getElem? (i := 24) rfl))) (mvT hZ (hw _ (List.mem_of_getElem? (i := 25) rfl))) (mvT hZ (hw _ (List.mem_of_getElem? (i := 21) rfl))) (mvT hZ (hw _ (List.mem_of_getElem? (i := 26) rfl))) (by decide) (backOf (W := 0) (rm6n2 l Z aw hw [] a0 b1 c0 c1 h1 n0 Z1 A1_a0 V1 ne_a0_b1 ge_b1 hu0 hu1) hZ (hw _ (List.mem_of_getElem? (i := 26) rfl)) (hw _ (List.mem_of_getElem? (i := 21) rfl)) (by decide) (by decide)) (g := (mkF m 9 #[.val (.ref a0), .val (.int (0 : Int32)), .val (.int (2 : Int32)), .val (.ref b1), .unset, .unset] [(.int (2 : Int32)), (.int (0 : Int32)), (.ref b1), (.int (0 : Int32)), (.ref a0)])) rfl (by rw [hml]; rfl) (argsL := [(.ref a0), (.int (0 : Int32)), (.ref b1), (.int (0 : Int32)), (.int (2 : Int32))]) (rest := []) (lenOf pd_285bCI5bBII29I rfl) rfl (by show 2 * 0 + _ ≤ _; exact Nat.le_of_eq rfl) (hb hby d5_9) (fun _ _ => ⟨rfl, e1, (by decide : 1 + 0 ≤ _), (by decide : 2 + 0 ≤ _)⟩)
  dsimp only [Pt.U, Pt.locs, Pt.cells, Pt.slots] at X2 lz2 yz2 zz2 st2 hQ2
  subst lz2 yz2 zz2
  obtain ⟨rfl, N2q, K2, Aq2⟩ := hQ2
  have E2_b1 := Exa.keep EX1 K2
  have A2_a0 := Ary.keep A1_a0 K2 (ninS ne_a0_b1 nin0)
  have Z2 : n0 ≤ T2.heap.size := Nat.le_trans Z1 K2.1
  have KK2 : Keep h0 T2.heap [] := KK1.trans K2 (allS (Or.inr sz_b1) all0)
  have N2 := Fr.app N0 N2q
  refine go st2 ?_
  show Run _ _ _ _ _ _ _ T2 (mkF m 12 #[.val (.ref a0), .val (.int (0 : Int32)), .val (.int (2 : Int32)), .val (.ref b1), .unset, .unset] [(.int (2 : Int32))])
  refine go (T' := T2) (f' := (mkF m 14 #[.val (.ref a0), .val (.int (0 : Int32)), .val (.int (2 : Int32)), .val (.ref b1), .val (.int (2 : Int32)), .unset] [])) (by intro t k; exact XS.istore X2.here hx rfl (hb hby d5_12) rfl (l' := #[.val (.ref a0), .val (.int (0 : Int32)), .val (.int (2 : Int32)), .val (.ref b1), .val (.int (2 : Int32)), .unset]) rfl k) ?_
  refine go (T' := T2) (f' := (mkF m 16 #[.val (.ref a0), .val (.int (0 : Int32)), .val (.int (2 : Int32)), .val (.ref b1), .val (.int (2 : Int32)), .unset] [(.int (2 : Int32))])) (by intro t k; exact XS.iload X2.here hx rfl (hb hby d5_14) rfl k) ?_
  refine go (T' := T2) (f' := (mkF m 17 #[.val (.ref a0), .val (.int (0 : Int32)), .val (.int (2 : Int32)), .val (.ref b1), .val (.int (2 : Int32)), .unset] [(.int (2 : Int32)), (.int (2 : Int32))])) (by intro t k; exact XS.iloadN X2.here hx rfl (hb hby d5_16) rfl k) ?_
  refine go (T' := T2) (f' := (mkF m 57 #[.val (.ref a0), .val (.int (0 : Int32)), .val (.int (2 : Int32)), .val (.ref b1), .val (.int (2 : Int32)), .unset] [])) (by intro t k; exact XS.icmpYes X2.here hx rfl (pc0 := 17) (pc' := 57) rfl (hb hby d5_17) rfl (teq (rfl : (2 : Int32) = (2 : Int32))).1 (by decide) (by decide) k) ?_
  refine go (T' := T2) (f' := (mkF m 58 #[.val (.ref a0), .val (.int (0 : Int32)), .val (.int (2 : Int32)), .val (.ref b1), .val (.int (2 : Int32)), .unset] [(.ref b1)])) (by intro t k; exact XS.aloadN X2.here hx rfl (hb hby d5_57) rfl rfl k) ?_
  refine retW X2 hx (t := (.array .byte)) Bd.returns rfl (Or.inr (Or.inr (Or.inr (Or.inr ⟨rfl, rfl, rfl⟩)))) (hb hby d5_58) hlk (by decide) (by decide) ?_
  show Q5n2 Z a0 c0 c1 h0 n0 _ T2.heap _
  have hv : h0.size ≤ b1 := by
    exact sz_b1
  exact ⟨_, rfl, hv, N2, KK2, Aq2⟩
theorem d7_0 : decode jdk_52_method_15_code 0 = .ok (.iload_n 1, 1) := by decide +kernel
theorem d7_1 : decode jdk_52_method_15_code 1 = .ok (.aload_n 0, 1) := by decide +kernel
theorem d7_2 : decode jdk_52_method_15_code 2 = .ok (.arraylength, 1) := by decide +kernel
theorem d7_3 : decode jdk_52_method_15_code 3 = .ok (.isub, 1) := by decide +kernel
theorem d7_4 : decode jdk_52_method_15_code 4 = .ok (.bipush 31, 2) := by decide +kernel
theorem d7_6 : decode jdk_52_method_15_code 6 = .ok (.iushr, 1) := by decide +kernel
theorem d7_7 : decode jdk_52_method_15_code 7 = .ok (.i2b, 1) := by decide +kernel
theorem d7_8 : decode jdk_52_method_15_code 8 = .ok (.ireturn, 1) := by decide +kernel
theorem ef_7n1 (m : MethodId) (x0 : Addr) : entryFrame m #[(.ref x0), (.int (1 : Int32))] 2 = mkF m 0 #[.val (.ref x0), .val (.int (1 : Int32))] [] := by first | (simp [entryFrame, mkF, argsToLocals, Value.category]; done) | rfl
def Q7n1 (Z : State) (a0 : Addr) (vs : List Value) (h0 : Heap) (n0 : Nat) (v : Option Value) (h : Heap) (L : List Loc) : Prop := v = some (.int (0 : Int32)) ∧ Fr n0 L ∧ h = h0
set_option maxRecDepth 65536 in
set_option maxHeartbeats 40000000 in
theorem rm7n1 (l : Launch) (Z : State) (aw : Array Value) (hw : ∀ d ∈ tables_1, d.before aw Z = true) (ws : List Jvm.Cond) (a0 : Addr) (vs : List Value) (h0 : Heap) (n0 : Nat) (Z0 : n0 ≤ h0.size) (A_a0 : Ary Z h0 a0 .byte vs) (hlen : vs.length.toInt32 = (1 : Int32)) :
    MetFree l (⟨"java/lang/StringUTF16", "coderFromArrayLen", "([BI)B"⟩ : MethodName) (head1 (Jvm.Cond.code (⟨"java/lang/StringUTF16", "coderFromArrayLen", "([BI)B"⟩ : MethodName) jdk_52_method_15_code 2 (some .byte) :: ws) ({ frames := 0, cells := 0, slots := 0, locals := 0 } : Room)) (fun a U => a = #[(.ref a0), (.int (1 : Int32))] ∧ Z.Warmed39 U.vm ∧ U.heap = h0) (fun _ _ _ _ _ => True) (fun _ U o U' => ∃ v L, o = .returned v ∧ Q7n1 Z a0 vs h0 n0 v U'.heap L ∧ FrameEnd U o U' L ({ frames := 0, cells := 0, slots := 0, locals := 0 } : Room).cells ({ frames := 0, cells := 0, slots := 0, locals := 0 } : Room).slots) := by
  refine MetFree.of_bodySF (plainFor_of_name pn_6) hisR ?_
  intro p e s m args below meth c s₁ Bd hml0 hP hK
  obtain ⟨rfl, hZ, hh⟩ := hP
  have hx := Bd.exec
  have hby := Bd.bytes
  have hml : c.maxLocals = 2 := hml0
  have hown : s.vm.findClass "java/lang/StringUTF16" = some m.cls := findClass_of_methodNamed Bd.named
  have hnm := (name_of_methodNamed Bd.named Bd.method).1
  have hlk : meth.locks = false := BodyLoose.notSynchronized Bd
  have X0 : Stand p l e ({ frames := 0, cells := 0, slots := 0, locals := 0 } : Room) s m #[(.ref a0), (.int (1 : Int32))] below meth c s₁ [] 0 0 := Stand.of_body Bd
  have e0 : s₁.heap = h0 := by rw [← hh, Bd.state]; rfl
  have N0 := Fr.nil n0
  show Run p e s below (Q7n1 Z a0 vs h0 n0) ({ frames := 0, cells := 0, slots := 0, locals := 0 } : Room).cells ({ frames := 0, cells := 0, slots := 0, locals := 0 } : Room).slots s₁ (entryFrame m #[(.ref a0), (.int (1 : Int32))] 2)
  rw [ef_7n1]
  show Run _ _ _ _ _ _ _ s₁ (mkF m 0 #[.val (.ref a0), .val (.int (1 : Int32))] [])
  refine go (T' := s₁) (f' := (mkF m 1 #[.val (.ref a0), .val (.int (1 : Int32))] [(.int (1 : Int32))])) (by intro t k; exact XS.iloadN X0.here hx rfl (hb hby d7_0) rfl k) ?_
  refine go (T' := s₁) (f' := (mkF m 2 #[.val (.ref a0), .val (.int (1 : Int32))] [(.ref a0), (.int (1 : Int32))])) (by intro t k; exact XS.aloadN X0.here hx rfl (hb hby d7_1) rfl rfl k) ?_
  refine go (T' := s₁) (f' := (mkF m 3 #[.val (.ref a0), .val (.int (1 : Int32))] [(.int (1 : Int32)), (.int (1 : Int32))])) (by intro t k; exact alen X0 hx hZ e0 A_a0 (z := (1 : Int32)) hlen (g := (mkF m 2 #[.val (.ref a0), .val (.int (1 : Int32))] [(.ref a0), (.int (1 : Int32))])) rfl rfl (hb hby d7_2) _ k) ?_
  refine go (T' := s₁) (f' := (mkF m 4 #[.val (.ref a0), .val (.int (1 : Int32))] [(.int (0 : Int32))])) (by intro t k; exact XS.isub X0.here hx rfl (hb hby d7_3) rfl k) ?_
  refine go (T' := s₁) (f' := (mkF m 6 #[.val (.ref a0), .val (.int (1 : Int32))] [(.int (31 : Int32)), (.int (0 : Int32))])) (by intro t k; exact XS.bipush X0.here hx rfl (hb hby d7_4) k) ?_
  refine go (T' := s₁) (f' := (mkF m 7 #[.val (.ref a0), .val (.int (1 : Int32))] [(.int (0 : Int32))])) (by intro t k; exact XS.iushr X0.here hx rfl (hb hby d7_6) rfl k) ?_
  refine go (T' := s₁) (f' := (mkF m 8 #[.val (.ref a0), .val (.int (1 : Int32))] [(.int (0 : Int32))])) (by intro t k; exact XS.i2b X0.here hx rfl (hb hby d7_7) rfl k) ?_
  refine retZ X0 hx (t := .byte) Bd.returns (by simp) (hb hby d7_8) hlk (by decide) (by decide) ?_
  show Q7n1 Z a0 vs h0 n0 _ s₁.heap _
  rw [e0]
  have hv' : (nar .byte (0 : Int32)) = (0 : Int32) := by
    rfl
  have hv : (some (.int (nar .byte (0 : Int32))) : Option Value) = some (.int (0 : Int32)) := congrArg (fun z => (some (.int z) : Option Value)) hv'
  exact ⟨hv, N0, rfl⟩
theorem ef_7n2 (m : MethodId) (x0 : Addr) : entryFrame m #[(.ref x0), (.int (2 : Int32))] 2 = mkF m 0 #[.val (.ref x0), .val (.int (2 : Int32))] [] := by first | (simp [entryFrame, mkF, argsToLocals, Value.category]; done) | rfl
def Q7n2 (Z : State) (a0 : Addr) (vs : List Value) (h0 : Heap) (n0 : Nat) (v : Option Value) (h : Heap) (L : List Loc) : Prop := v = some (.int (0 : Int32)) ∧ Fr n0 L ∧ h = h0
set_option maxRecDepth 65536 in
set_option maxHeartbeats 40000000 in
theorem rm7n2 (l : Launch) (Z : State) (aw : Array Value) (hw : ∀ d ∈ tables_1, d.before aw Z = true) (ws : List Jvm.Cond) (a0 : Addr) (vs : List Value) (h0 : Heap) (n0 : Nat) (Z0 : n0 ≤ h0.size) (A_a0 : Ary Z h0 a0 .byte vs) (hlen : vs.length.toInt32 = (2 : Int32)) :
    MetFree l (⟨"java/lang/StringUTF16", "coderFromArrayLen", "([BI)B"⟩ : MethodName) (head1 (Jvm.Cond.code (⟨"java/lang/StringUTF16", "coderFromArrayLen", "([BI)B"⟩ : MethodName) jdk_52_method_15_code 2 (some .byte) :: ws) ({ frames := 0, cells := 0, slots := 0, locals := 0 } : Room)) (fun a U => a = #[(.ref a0), (.int (2 : Int32))] ∧ Z.Warmed39 U.vm ∧ U.heap = h0) (fun _ _ _ _ _ => True) (fun _ U o U' => ∃ v L, o = .returned v ∧ Q7n2 Z a0 vs h0 n0 v U'.heap L ∧ FrameEnd U o U' L ({ frames := 0, cells := 0, slots := 0, locals := 0 } : Room).cells ({ frames := 0, cells := 0, slots := 0, locals := 0 } : Room).slots) := by
  refine MetFree.of_bodySF (plainFor_of_name pn_6) hisR ?_
  intro p e s m args below meth c s₁ Bd hml0 hP hK
  obtain ⟨rfl, hZ, hh⟩ := hP
  have hx := Bd.exec
  have hby := Bd.bytes
  have hml : c.maxLocals = 2 := hml0
  have hown : s.vm.findClass "java/lang/StringUTF16" = some m.cls := findClass_of_methodNamed Bd.named
  have hnm := (name_of_methodNamed Bd.named Bd.method).1
  have hlk : meth.locks = false := BodyLoose.notSynchronized Bd
  have X0 : Stand p l e ({ frames := 0, cells := 0, slots := 0, locals := 0 } : Room) s m #[(.ref a0), (.int (2 : Int32))] below meth c s₁ [] 0 0 := Stand.of_body Bd
  have e0 : s₁.heap = h0 := by rw [← hh, Bd.state]; rfl
  have N0 := Fr.nil n0
  show Run p e s below (Q7n2 Z a0 vs h0 n0) ({ frames := 0, cells := 0, slots := 0, locals := 0 } : Room).cells ({ frames := 0, cells := 0, slots := 0, locals := 0 } : Room).slots s₁ (entryFrame m #[(.ref a0), (.int (2 : Int32))] 2)
  rw [ef_7n2]
  show Run _ _ _ _ _ _ _ s₁ (mkF m 0 #[.val (.ref a0), .val (.int (2 : Int32))] [])
  refine go (T' := s₁) (f' := (mkF m 1 #[.val (.ref a0), .val (.int (2 : Int32))] [(.int (2 : Int32))])) (by intro t k; exact XS.iloadN X0.here hx rfl (hb hby d7_0) rfl k) ?_
  refine go (T' := s₁) (f' := (mkF m 2 #[.val (.ref a0), .val (.int (2 : Int32))] [(.ref a0), (.int (2 : Int32))])) (by intro t k; exact XS.aloadN X0.here hx rfl (hb hby d7_1) rfl rfl k) ?_
  refine go (T' := s₁) (f' := (mkF m 3 #[.val (.ref a0), .val (.int (2 : Int32))] [(.int (2 : Int32)), (.int (2 : Int32))])) (by intro t k; exact alen X0 hx hZ e0 A_a0 (z := (2 : Int32)) hlen (g := (mkF m 2 #[.val (.ref a0), .val (.int (2 : Int32))] [(.ref a0), (.int (2 : Int32))])) rfl rfl (hb hby d7_2) _ k) ?_
  refine go (T' := s₁) (f' := (mkF m 4 #[.val (.ref a0), .val (.int (2 : Int32))] [(.int (0 : Int32))])) (by intro t k; exact XS.isub X0.here hx rfl (hb hby d7_3) rfl k) ?_
  refine go (T' := s₁) (f' := (mkF m 6 #[.val (.ref a0), .val (.int (2 : Int32))] [(.int (31 : Int32)), (.int (0 : Int32))])) (by intro t k; exact XS.bipush X0.here hx rfl (hb hby d7_4) k) ?_
  refine go (T' := s₁) (f' := (mkF m 7 #[.val (.ref a0), .val (.int (2 : Int32))] [(.int (0 : Int32))])) (by intro t k; exact XS.iushr X0.here hx rfl (hb hby d7_6) rfl k) ?_
  refine go (T' := s₁) (f' := (mkF m 8 #[.val (.ref a0), .val (.int (2 : Int32))] [(.int (0 : Int32))])) (by intro t k; exact XS.i2b X0.here hx rfl (hb hby d7_7) rfl k) ?_
  refine retZ X0 hx (t := .byte) Bd.returns (by simp) (hb hby d7_8) hlk (by decide) (by decide) ?_
  show Q7n2 Z a0 vs h0 n0 _ s₁.heap _
  rw [e0]
  have hv' : (nar .byte (0 : Int32)) = (0 : Int32) := by
    rfl
  have hv : (some (.int (nar .byte (0 : Int32))) : Option Value) = some (.int (0 : Int32)) := congrArg (fun z => (some (.int z) : Option Value)) hv'
  exact ⟨hv, N0, rfl⟩
theorem d3_0 : decode jdk_42_method_149_code 0 = .ok (.aload_n 0, 1) := by decide +kernel
theorem d3_1 : decode jdk_42_method_149_code 1 = .ok (.invokespecial 1, 3) := by decide +kernel
theorem d3_4 : decode jdk_42_method_149_code 4 = .ok (.iload_n 3, 1) := by decide +kernel
theorem d3_5 : decode jdk_42_method_149_code 5 = .ok (.ifCond .ne 22, 3) := by decide +kernel
theorem d3_27 : decode jdk_42_method_149_code 27 = .ok (.getstatic 38, 3) := by decide +kernel
theorem d3_30 : decode jdk_42_method_149_code 30 = .ok (.ifCond .eq 28, 3) := by decide +kernel
theorem d3_33 : decode jdk_42_method_149_code 33 = .ok (.aload_n 1, 1) := by decide +kernel
theorem d3_34 : decode jdk_42_method_149_code 34 = .ok (.iload_n 2, 1) := by decide +kernel
theorem d3_35 : decode jdk_42_method_149_code 35 = .ok (.iload_n 3, 1) := by decide +kernel
theorem d3_36 : decode jdk_42_method_149_code 36 = .ok (.invokestatic 177, 3) := by decide +kernel
theorem d3_39 : decode jdk_42_method_149_code 39 = .ok (.astore 5, 2) := by decide +kernel
theorem d3_41 : decode jdk_42_method_149_code 41 = .ok (.aload_n 0, 1) := by decide +kernel
theorem d3_42 : decode jdk_42_method_149_code 42 = .ok (.aload 5, 2) := by decide +kernel
theorem d3_44 : decode jdk_42_method_149_code 44 = .ok (.iload_n 3, 1) := by decide +kernel
theorem d3_45 : decode jdk_42_method_149_code 45 = .ok (.invokestatic 47, 3) := by decide +kernel
theorem d3_48 : decode jdk_42_method_149_code 48 = .ok (.putfield 15, 3) := by decide +kernel
theorem d3_51 : decode jdk_42_method_149_code 51 = .ok (.aload_n 0, 1) := by decide +kernel
theorem d3_52 : decode jdk_42_method_149_code 52 = .ok (.aload 5, 2) := by decide +kernel
theorem d3_54 : decode jdk_42_method_149_code 54 = .ok (.putfield 9, 3) := by decide +kernel
theorem d3_57 : decode jdk_42_method_149_code 57 = .ok (.return_, 1) := by decide +kernel
theorem pd_285bCII295bB : parseMethodDescriptor "([CII)[B" = some ⟨[(.array .char), .int, .int], some (.array .byte)⟩ := by decide +kernel
theorem pd_285bBI29B : parseMethodDescriptor "([BI)B" = some ⟨[(.array .byte), .int], some .byte⟩ := by decide +kernel
theorem pn_3 : plainName "java/lang/String" = true := by first | (simp [plainName, overriddenIn]; done) | decide +kernel
theorem ef_3n1 (m : MethodId) (x0 : Addr) (x1 : Addr) : entryFrame m #[(.ref x0), (.ref x1), (.int (0 : Int32)), (.int (1 : Int32)), .null] 6 = mkF m 0 #[.val (.ref x0), .val (.ref x1), .val (.int (0 : Int32)), .val (.int (1 : Int32)), .val .null, .unset] [] := by first | (simp [entryFrame, mkF, argsToLocals, Value.category]; done) | rfl
def Q3n1 (Z : State) (a0 : Addr) (a1 : Addr) (cs : Int32) (c0 : Int32) (h0 : Heap) (n0 : Nat) (v : Option Value) (h : Heap) (L : List Loc) : Prop := v = none ∧ Fr n0 L ∧ Keep h0 h [a0] ∧ ∃ b, h0.size ≤ b ∧ Fld Z h a0 "java/lang/String" "coder" "B" (.int (0 : Int32)) ∧ Fld Z h a0 "java/lang/String" "value" "[B" (.ref b) ∧ Ary Z h b .byte [(.int (nar .byte ((c0).toInt8.toInt32)))]
set_option maxRecDepth 65536 in
set_option maxHeartbeats 40000000 in
theorem rm3n1 (l : Launch) (Z : State) (aw : Array Value) (hw : ∀ d ∈ tables_1, d.before aw Z = true) (ws : List Jvm.Cond) (a0 : Addr) (a1 : Addr) (cs : Int32) (c0 : Int32) (h0 : Heap) (n0 : Nat) (Z0 : n0 ≤ h0.size) (O0 : Old Z n0 h0) (S_cs : Sta Z Z.heap "java/lang/String" "COMPACT_STRINGS" "Z" (.int cs)) (hcs : ¬ (cs = (0 : Int32))) (E_a0 : Exa Z h0 a0 "java/lang/String") (F_c : Fld Z h0 a0 "java/lang/String" "coder" "B" (.int (0 : Int32))) (F_v : Fld Z h0 a0 "java/lang/String" "value" "[B" .null) (g_a0 : n0 ≤ a0) (A_a1 : Ary Z h0 a1 .char [(.int c0)]) (n_01 : a0 ≠ a1) (hu0 : ¬ ((255 : Int32) < c0)) :
    MetFree l (⟨"java/lang/String", "<init>", "([CIILjava/lang/Void;)V"⟩ : MethodName) (head1 (Jvm.Cond.code (⟨"java/lang/String", "<init>", "([CIILjava/lang/Void;)V"⟩ : MethodName) jdk_42_method_149_code 6 none :: ws) ({ frames := 2, cells := 1, slots := 1, locals := 35 } : Room)) (fun a U => a = #[(.ref a0), (.ref a1), (.int (0 : Int32)), (.int (1 : Int32)), .null] ∧ Z.Warmed39 U.vm ∧ U.heap = h0) (fun _ _ _ _ _ => True) (fun _ U o U' => ∃ v L, o = .returned v ∧ Q3n1 Z a0 a1 cs c0 h0 n0 v U'.heap L ∧ FrameEnd U o U' L ({ frames := 2, cells := 1, slots := 1, locals := 35 } : Room).cells ({ frames := 2, cells := 1, slots := 1, locals := 35 } : Room).slots) := by
  refine MetFree.of_bodySF (plainFor_of_name pn_3) hisR ?_
  intro p e s m args below meth c s₁ Bd hml0 hP hK
  obtain ⟨rfl, hZ, hh⟩ := hP
  have hx := Bd.exec
  have hby := Bd.bytes
  have hml : c.maxLocals = 6 := hml0
  have hown : s.vm.findClass "java/lang/String" = some m.cls := findClass_of_methodNamed Bd.named
  have hnm := (name_of_methodNamed Bd.named Bd.method).1
  have hlk : meth.locks = false := BodyLoose.notSynchronized Bd
  have X0 : Stand p l e ({ frames := 2, cells := 1, slots := 1, locals := 35 } : Room) s m #[(.ref a0), (.ref a1), (.int (0 : Int32)), (.int (1 : Int32)), .null] below meth c s₁ [] 0 0 := Stand.of_body Bd
  have e0 : s₁.heap = h0 := by rw [← hh, Bd.state]; rfl
  have N0 := Fr.nil n0
  show Run p e s below (Q3n1 Z a0 a1 cs c0 h0 n0) ({ frames := 2, cells := 1, slots := 1, locals := 35 } : Room).cells ({ frames := 2, cells := 1, slots := 1, locals := 35 } : Room).slots s₁ (entryFrame m #[(.ref a0), (.ref a1), (.int (0 : Int32)), (.int (1 : Int32)), .null] 6)
  rw [ef_3n1]
  show Run _ _ _ _ _ _ _ s₁ (mkF m 0 #[.val (.ref a0), .val (.ref a1), .val (.int (0 : Int32)), .val (.int (1 : Int32)), .val .null, .unset] [])
  refine go (T' := s₁) (f' := (mkF m 1 #[.val (.ref a0), .val (.ref a1), .val (.int (0 : Int32)), .val (.int (1 : Int32)), .val .null, .unset] [(.ref a0)])) (by intro t k; exact XS.aloadN X0.here hx rfl (hb hby d3_0) rfl rfl k) ?_
  obtain ⟨T1, X1, e1, st1⟩ := initO X0 hx hZ hown (hw _ (List.mem_of_getElem? (i := 15) rfl)) (hw _ (List.mem_of_getElem? (i := 16) rfl)) (hw _ (List.mem_of_getElem? (i := 17) rfl)) e0 (g := (mkF m 1 #[.val (.ref a0), .val (.ref a1), .val (.int (0 : Int32)), .val (.int (1 : Int32)), .val .null, .unset] [(.ref a0)])) rfl (by rw [hml]; rfl) rfl (hb hby d3_1) (by decide) (W := 0) (by show 2 * 0 + _ ≤ _; exact Nat.le_of_eq rfl) (by decide)
  refine go st1 ?_
  show Run _ _ _ _ _ _ _ T1 (mkF m 4 #[.val (.ref a0), .val (.ref a1), .val (.int (0 : Int32)), .val (.int (1 : Int32)), .val .null, .unset] [])
  refine go (T' := T1) (f' := (mkF m 5 #[.val (.ref a0), .val (.ref a1), .val (.int (0 : Int32)), .val (.int (1 : Int32)), .val .null, .unset] [(.int (1 : Int32))])) (by intro t k; exact XS.iloadN X1.here hx rfl (hb hby d3_4) rfl k) ?_
  refine go (T' := T1) (f' := (mkF m 27 #[.val (.ref a0), .val (.ref a1), .val (.int (0 : Int32)), .val (.int (1 : Int32)), .val .null, .unset] [])) (by intro t k; exact XS.ifYes X1.here hx rfl (pc0 := 5) (pc' := 27) rfl (hb hby d3_5) rfl ((if0 _ _).trans (feq (by decide : ¬ ((1 : Int32) = (0 : Int32)))).2) (by decide) (by decide) k) ?_
  obtain ⟨T2, X2, e2, st2⟩ := getS2 X1 hx hZ hown (host := "") (Or.inl (hw _ (List.mem_of_getElem? (i := 18) rfl))) Via.refl e1 (S_cs.ext O0.2) (g := (mkF m 27 #[.val (.ref a0), .val (.ref a1), .val (.int (0 : Int32)), .val (.int (1 : Int32)), .val .null, .unset] [])) rfl (hb hby d3_27)
  refine go st2 ?_
  show Run _ _ _ _ _ _ _ T2 (mkF m 30 #[.val (.ref a0), .val (.ref a1), .val (.int (0 : Int32)), .val (.int (1 : Int32)), .val .null, .unset] [(.int cs)])
  refine go (T' := T2) (f' := (mkF m 33 #[.val (.ref a0), .val (.ref a1), .val (.int (0 : Int32)), .val (.int (1 : Int32)), .val .null, .unset] [])) (by intro t k; exact XS.ifNo X2.here hx rfl (hb hby d3_30) rfl ((if0 _ _).trans (feq (hcs : ¬ (cs = (0 : Int32)))).1) k) ?_
  refine go (T' := T2) (f' := (mkF m 34 #[.val (.ref a0), .val (.ref a1), .val (.int (0 : Int32)), .val (.int (1 : Int32)), .val .null, .unset] [(.ref a1)])) (by intro t k; exact XS.aloadN X2.here hx rfl (hb hby d3_33) rfl rfl k) ?_
  refine go (T' := T2) (f' := (mkF m 35 #[.val (.ref a0), .val (.ref a1), .val (.int (0 : Int32)), .val (.int (1 : Int32)), .val .null, .unset] [(.int (0 : Int32)), (.ref a1)])) (by intro t k; exact XS.iloadN X2.here hx rfl (hb hby d3_34) rfl k) ?_
  refine go (T' := T2) (f' := (mkF m 36 #[.val (.ref a0), .val (.ref a1), .val (.int (0 : Int32)), .val (.int (1 : Int32)), .val .null, .unset] [(.int (1 : Int32)), (.int (0 : Int32)), (.ref a1)])) (by intro t k; exact XS.iloadN X2.here hx rfl (hb hby d3_35) rfl k) ?_
  obtain ⟨_, _, ⟨T3, Lz3, kz3, nz3⟩, -, X3, ⟨Lc3, hQ3, lz3, yz3, zz3⟩, st3⟩ := Jvm.LawKit.callS X2 hx (y := (⟨"java/lang/StringUTF16", "compress", "([CII)[B"⟩ : MethodName)) hown (mvT hZ (hw _ (List.mem_of_getElem? (i := 19) rfl))) (mvT hZ (hw _ (List.mem_of_getElem? (i := 20) rfl))) (mvT hZ (hw _ (List.mem_of_getElem? (i := 21) rfl))) (mvT hZ (hw _ (List.mem_of_getElem? (i := 22) rfl))) (by decide) (backOf (W := 0) (rm5n1 l Z aw hw [] a1 c0 h0 n0 Z0 A_a1 hu0) hZ (hw _ (List.mem_of_getElem? (i := 22) rfl)) (hw _ (List.mem_of_getElem? (i := 21) rfl)) (by decide) (by decide)) (g := (mkF m 36 #[.val (.ref a0), .val (.ref a1), .val (.int (0 : Int32)), .val (.int (1 : Int32)), .val .null, .unset] [(.int (1 : Int32)), (.int (0 : Int32)), (.ref a1)])) rfl (by rw [hml]; rfl) (argsL := [(.ref a1), (.int (0 : Int32)), (.int (1 : Int32))]) (rest := []) (lenOf pd_285bCII295bB rfl) rfl (by show 2 * 0 + _ ≤ _; exact Nat.le_of_eq rfl) (hb hby d3_36) (fun _ _ => ⟨rfl, e2, (by decide : 0 + 1 ≤ _), (by decide : 0 + 1 ≤ _)⟩)
  dsimp only [Pt.U, Pt.locs, Pt.cells, Pt.slots] at X3 lz3 yz3 zz3 st3 hQ3
  subst lz3 yz3 zz3
  obtain ⟨r3, rfl, sz3, N3q, K3, Aq3⟩ := hQ3
  have ne_a0_r3 : a0 ≠ r3 := Nat.ne_of_lt (Nat.lt_of_lt_of_le E_a0.lt sz3)
  have ne_a1_r3 : a1 ≠ r3 := Nat.ne_of_lt (Nat.lt_of_lt_of_le A_a1.lt sz3)
  have ge_r3 : n0 ≤ r3 := Nat.le_trans Z0 sz3
  have sz_r3 : h0.size ≤ r3 := Nat.le_trans (Keep.refl h0 []).1 sz3
  have E3_a0 := Exa.keep E_a0 K3
  have F3_a0_coder := Fld.keep F_c K3 nin0
  have F3_a0_value := Fld.keep F_v K3 nin0
  have A3_a1 := Ary.keep A_a1 K3 nin0
  have O3 : Old Z n0 T3.heap := O0.keep K3 all0
  have Z3 : n0 ≤ T3.heap.size := Nat.le_trans Z0 K3.1
  have KK3 : Keep h0 T3.heap [a0] := (Keep.refl _ _).trans K3 all0
  have N3 := Fr.app N0 N3q
  refine go st3 ?_
  show Run _ _ _ _ _ _ _ T3 (mkF m 39 #[.val (.ref a0), .val (.ref a1), .val (.int (0 : Int32)), .val (.int (1 : Int32)), .val .null, .unset] [(.ref r3)])
  refine go (T' := T3) (f' := (mkF m 41 #[.val (.ref a0), .val (.ref a1), .val (.int (0 : Int32)), .val (.int (1 : Int32)), .val .null, .val (.ref r3)] [])) (by intro t k; exact XS.astore X3.here hx rfl (hb hby d3_39) rfl rfl (l' := #[.val (.ref a0), .val (.ref a1), .val (.int (0 : Int32)), .val (.int (1 : Int32)), .val .null, .val (.ref r3)]) rfl k) ?_
  refine go (T' := T3) (f' := (mkF m 42 #[.val (.ref a0), .val (.ref a1), .val (.int (0 : Int32)), .val (.int (1 : Int32)), .val .null, .val (.ref r3)] [(.ref a0)])) (by intro t k; exact XS.aloadN X3.here hx rfl (hb hby d3_41) rfl rfl k) ?_
  refine go (T' := T3) (f' := (mkF m 44 #[.val (.ref a0), .val (.ref a1), .val (.int (0 : Int32)), .val (.int (1 : Int32)), .val .null, .val (.ref r3)] [(.ref r3), (.ref a0)])) (by intro t k; exact XS.aload X3.here hx rfl (hb hby d3_42) rfl rfl k) ?_
  refine go (T' := T3) (f' := (mkF m 45 #[.val (.ref a0), .val (.ref a1), .val (.int (0 : Int32)), .val (.int (1 : Int32)), .val .null, .val (.ref r3)] [(.int (1 : Int32)), (.ref r3), (.ref a0)])) (by intro t k; exact XS.iloadN X3.here hx rfl (hb hby d3_44) rfl k) ?_
  obtain ⟨_, _, ⟨T4, Lz4, kz4, nz4⟩, -, X4, ⟨Lc4, hQ4, lz4, yz4, zz4⟩, st4⟩ := Jvm.LawKit.callS X3 hx (y := (⟨"java/lang/StringUTF16", "coderFromArrayLen", "([BI)B"⟩ : MethodName)) hown (mvT hZ (hw _ (List.mem_of_getElem? (i := 27) rfl))) (mvT hZ (hw _ (List.mem_of_getElem? (i := 28) rfl))) (mvT hZ (hw _ (List.mem_of_getElem? (i := 21) rfl))) (mvT hZ (hw _ (List.mem_of_getElem? (i := 29) rfl))) (by decide) (backOf (W := 1) (rm7n1 l Z aw hw [] r3 [(.int (nar .byte ((c0).toInt8.toInt32)))] T3.heap n0 Z3 Aq3 rfl) hZ (hw _ (List.mem_of_getElem? (i := 29) rfl)) (hw _ (List.mem_of_getElem? (i := 21) rfl)) (by decide) (by decide)) (g := (mkF m 45 #[.val (.ref a0), .val (.ref a1), .val (.int (0 : Int32)), .val (.int (1 : Int32)), .val .null, .val (.ref r3)] [(.int (1 : Int32)), (.ref r3), (.ref a0)])) rfl (by rw [hml]; rfl) (argsL := [(.ref r3), (.int (1 : Int32))]) (rest := [(.ref a0)]) (lenOf pd_285bBI29B rfl) rfl (by show 2 * 0 + _ ≤ _; exact Nat.le_of_eq rfl) (hb hby d3_45) (fun _ _ => ⟨rfl, rfl, (by decide : 1 + 0 ≤ _), (by decide : 1 + 0 ≤ _)⟩)
  dsimp only [Pt.U, Pt.locs, Pt.cells, Pt.slots] at X4 lz4 yz4 zz4 st4 hQ4
  subst lz4 yz4 zz4
  obtain ⟨rfl, N4q, e4⟩ := hQ4
  have N4 := Fr.app N3 N4q
  refine go st4 ?_
  show Run _ _ _ _ _ _ _ T4 (mkF m 48 #[.val (.ref a0), .val (.ref a1), .val (.int (0 : Int32)), .val (.int (1 : Int32)), .val .null, .val (.ref r3)] [(.int (0 : Int32)), (.ref a0)])
  obtain ⟨T5, h5, X5, e5, W5, st5⟩ := putFN X4 hx hZ hown (hw _ (List.mem_of_getElem? (i := 30) rfl)) Via.refl e4 F3_a0_coder E3_a0 (Or.inr ⟨(hw _ (List.mem_of_getElem? (i := 31) rfl)), rfl, hnm⟩) (hw _ (List.mem_of_getElem? (i := 6) rfl)) (ty := .byte) (v' := (.int (0 : Int32))) (by decide) rfl rfl (g := (mkF m 48 #[.val (.ref a0), .val (.ref a1), .val (.int (0 : Int32)), .val (.int (1 : Int32)), .val .null, .val (.ref r3)] [(.int (0 : Int32)), (.ref a0)])) rfl rfl (hb hby d3_48)
  have K5 : Keep T3.heap h5 [a0] := Keep.of_wr W5
  have F5_a0_coder : Fld Z h5 a0 "java/lang/String" "coder" "B" (.int (0 : Int32)) := F3_a0_coder.same W5
  have F5_a0_value := Fld.other W5 F3_a0_value (Or.inr (slot_ne (Or.inr (hw _ (List.mem_of_getElem? (i := 33) rfl))) (Or.inr (hw _ (List.mem_of_getElem? (i := 31) rfl))) (by decide) (t := (.array .byte)) (t' := .byte) (by decide) (by decide)))
  have N5 := Fr.snoc X5 N4 g_a0
  have E5_a0 := Exa.keep E3_a0 K5
  have A5_a1 := Ary.keep A3_a1 K5 (ninS (Ne.symm n_01) nin0)
  have A5_r3 := Ary.keep Aq3 K5 (ninS (Ne.symm ne_a0_r3) nin0)
  have O5 : Old Z n0 h5 := O3.keep K5 (allS g_a0 all0)
  have Z5 : n0 ≤ h5.size := Nat.le_trans Z3 K5.1
  have KK5 : Keep h0 h5 [a0] := KK3.trans K5 (allS (Or.inl (List.mem_of_getElem? (i := 0) rfl)) all0)
  refine go st5 ?_
  show Run _ _ _ _ _ _ _ T5 (mkF m 51 #[.val (.ref a0), .val (.ref a1), .val (.int (0 : Int32)), .val (.int (1 : Int32)), .val .null, .val (.ref r3)] [])
  refine go (T' := T5) (f' := (mkF m 52 #[.val (.ref a0), .val (.ref a1), .val (.int (0 : Int32)), .val (.int (1 : Int32)), .val .null, .val (.ref r3)] [(.ref a0)])) (by intro t k; exact XS.aloadN X5.here hx rfl (hb hby d3_51) rfl rfl k) ?_
  refine go (T' := T5) (f' := (mkF m 54 #[.val (.ref a0), .val (.ref a1), .val (.int (0 : Int32)), .val (.int (1 : Int32)), .val .null, .val (.ref r3)] [(.ref r3), (.ref a0)])) (by intro t k; exact XS.aload X5.here hx rfl (hb hby d3_52) rfl rfl k) ?_
  obtain ⟨T6, h6, X6, e6, W6, st6⟩ := putF X5 hx hZ hown (host := "") (Or.inl (hw _ (List.mem_of_getElem? (i := 32) rfl))) Via.refl e5 F5_a0_value E5_a0 (Or.inr ⟨(hw _ (List.mem_of_getElem? (i := 33) rfl)), rfl, hnm⟩) (hw _ (List.mem_of_getElem? (i := 6) rfl)) (ty := (.array .byte)) (by decide) rfl rfl (g := (mkF m 54 #[.val (.ref a0), .val (.ref a1), .val (.int (0 : Int32)), .val (.int (1 : Int32)), .val .null, .val (.ref r3)] [(.ref r3), (.ref a0)])) rfl rfl (hb hby d3_54)
  have K6 : Keep h5 h6 [a0] := Keep.of_wr W6
  have F6_a0_coder := Fld.other W6 F5_a0_coder (Or.inr (slot_ne (Or.inr (hw _ (List.mem_of_getElem? (i := 31) rfl))) (Or.inr (hw _ (List.mem_of_getElem? (i := 33) rfl))) (by decide) (t := .byte) (t' := (.array .byte)) (by decide) (by decide)))
  have F6_a0_value : Fld Z h6 a0 "java/lang/String" "value" "[B" (.ref r3) := F5_a0_value.same W6
  have N6 := Fr.snoc X6 N5 g_a0
  have E6_a0 := Exa.keep E5_a0 K6
  have A6_a1 := Ary.keep A5_a1 K6 (ninS (Ne.symm n_01) nin0)
  have A6_r3 := Ary.keep A5_r3 K6 (ninS (Ne.symm ne_a0_r3) nin0)
  have O6 : Old Z n0 h6 := O5.keep K6 (allS g_a0 all0)
  have Z6 : n0 ≤ h6.size := Nat.le_trans Z5 K6.1
  have KK6 : Keep h0 h6 [a0] := KK5.trans K6 (allS (Or.inl (List.mem_of_getElem? (i := 0) rfl)) all0)
  refine go st6 ?_
  show Run _ _ _ _ _ _ _ T6 (mkF m 57 #[.val (.ref a0), .val (.ref a1), .val (.int (0 : Int32)), .val (.int (1 : Int32)), .val .null, .val (.ref r3)] [])
  refine retV X6 hx Bd.returns (hb hby d3_57) hlk (by decide) (by decide) ?_
  show Q3n1 Z a0 a1 cs c0 h0 n0 _ T6.heap _
  rw [e6]
  exact ⟨rfl, N6, KK6, ⟨_, sz_r3, F6_a0_coder, F6_a0_value, A6_r3⟩⟩
theorem ef_3n2 (m : MethodId) (x0 : Addr) (x1 : Addr) : entryFrame m #[(.ref x0), (.ref x1), (.int (0 : Int32)), (.int (2 : Int32)), .null] 6 = mkF m 0 #[.val (.ref x0), .val (.ref x1), .val (.int (0 : Int32)), .val (.int (2 : Int32)), .val .null, .unset] [] := by first | (simp [entryFrame, mkF, argsToLocals, Value.category]; done) | rfl
def Q3n2 (Z : State) (a0 : Addr) (a1 : Addr) (cs : Int32) (c0 c1 : Int32) (h0 : Heap) (n0 : Nat) (v : Option Value) (h : Heap) (L : List Loc) : Prop := v = none ∧ Fr n0 L ∧ Keep h0 h [a0] ∧ ∃ b, h0.size ≤ b ∧ Fld Z h a0 "java/lang/String" "coder" "B" (.int (0 : Int32)) ∧ Fld Z h a0 "java/lang/String" "value" "[B" (.ref b) ∧ Ary Z h b .byte [(.int (nar .byte ((c0).toInt8.toInt32))), (.int (nar .byte ((c1).toInt8.toInt32)))]
set_option maxRecDepth 65536 in
set_option maxHeartbeats 40000000 in
theorem rm3n2 (l : Launch) (Z : State) (aw : Array Value) (hw : ∀ d ∈ tables_1, d.before aw Z = true) (ws : List Jvm.Cond) (a0 : Addr) (a1 : Addr) (cs : Int32) (c0 c1 : Int32) (h0 : Heap) (n0 : Nat) (Z0 : n0 ≤ h0.size) (O0 : Old Z n0 h0) (S_cs : Sta Z Z.heap "java/lang/String" "COMPACT_STRINGS" "Z" (.int cs)) (hcs : ¬ (cs = (0 : Int32))) (E_a0 : Exa Z h0 a0 "java/lang/String") (F_c : Fld Z h0 a0 "java/lang/String" "coder" "B" (.int (0 : Int32))) (F_v : Fld Z h0 a0 "java/lang/String" "value" "[B" .null) (g_a0 : n0 ≤ a0) (A_a1 : Ary Z h0 a1 .char [(.int c0), (.int c1)]) (n_01 : a0 ≠ a1) (hu0 : ¬ ((255 : Int32) < c0)) (hu1 : ¬ ((255 : Int32) < c1)) :
    MetFree l (⟨"java/lang/String", "<init>", "([CIILjava/lang/Void;)V"⟩ : MethodName) (head1 (Jvm.Cond.code (⟨"java/lang/String", "<init>", "([CIILjava/lang/Void;)V"⟩ : MethodName) jdk_42_method_149_code 6 none :: ws) ({ frames := 2, cells := 1, slots := 2, locals := 35 } : Room)) (fun a U => a = #[(.ref a0), (.ref a1), (.int (0 : Int32)), (.int (2 : Int32)), .null] ∧ Z.Warmed39 U.vm ∧ U.heap = h0) (fun _ _ _ _ _ => True) (fun _ U o U' => ∃ v L, o = .returned v ∧ Q3n2 Z a0 a1 cs c0 c1 h0 n0 v U'.heap L ∧ FrameEnd U o U' L ({ frames := 2, cells := 1, slots := 2, locals := 35 } : Room).cells ({ frames := 2, cells := 1, slots := 2, locals := 35 } : Room).slots) := by
  refine MetFree.of_bodySF (plainFor_of_name pn_3) hisR ?_
  intro p e s m args below meth c s₁ Bd hml0 hP hK
  obtain ⟨rfl, hZ, hh⟩ := hP
  have hx := Bd.exec
  have hby := Bd.bytes
  have hml : c.maxLocals = 6 := hml0
  have hown : s.vm.findClass "java/lang/String" = some m.cls := findClass_of_methodNamed Bd.named
  have hnm := (name_of_methodNamed Bd.named Bd.method).1
  have hlk : meth.locks = false := BodyLoose.notSynchronized Bd
  have X0 : Stand p l e ({ frames := 2, cells := 1, slots := 2, locals := 35 } : Room) s m #[(.ref a0), (.ref a1), (.int (0 : Int32)), (.int (2 : Int32)), .null] below meth c s₁ [] 0 0 := Stand.of_body Bd
  have e0 : s₁.heap = h0 := by rw [← hh, Bd.state]; rfl
  have N0 := Fr.nil n0
  show Run p e s below (Q3n2 Z a0 a1 cs c0 c1 h0 n0) ({ frames := 2, cells := 1, slots := 2, locals := 35 } : Room).cells ({ frames := 2, cells := 1, slots := 2, locals := 35 } : Room).slots s₁ (entryFrame m #[(.ref a0), (.ref a1), (.int (0 : Int32)), (.int (2 : Int32)), .null] 6)
  rw [ef_3n2]
  show Run _ _ _ _ _ _ _ s₁ (mkF m 0 #[.val (.ref a0), .val (.ref a1), .val (.int (0 : Int32)), .val (.int (2 : Int32)), .val .null, .unset] [])
  refine go (T' := s₁) (f' := (mkF m 1 #[.val (.ref a0), .val (.ref a1), .val (.int (0 : Int32)), .val (.int (2 : Int32)), .val .null, .unset] [(.ref a0)])) (by intro t k; exact XS.aloadN X0.here hx rfl (hb hby d3_0) rfl rfl k) ?_
  obtain ⟨T1, X1, e1, st1⟩ := initO X0 hx hZ hown (hw _ (List.mem_of_getElem? (i := 15) rfl)) (hw _ (List.mem_of_getElem? (i := 16) rfl)) (hw _ (List.mem_of_getElem? (i := 17) rfl)) e0 (g := (mkF m 1 #[.val (.ref a0), .val (.ref a1), .val (.int (0 : Int32)), .val (.int (2 : Int32)), .val .null, .unset] [(.ref a0)])) rfl (by rw [hml]; rfl) rfl (hb hby d3_1) (by decide) (W := 0) (by show 2 * 0 + _ ≤ _; exact Nat.le_of_eq rfl) (by decide)
  refine go st1 ?_
  show Run _ _ _ _ _ _ _ T1 (mkF m 4 #[.val (.ref a0), .val (.ref a1), .val (.int (0 : Int32)), .val (.int (2 : Int32)), .val .null, .unset] [])
  refine go (T' := T1) (f' := (mkF m 5 #[.val (.ref a0), .val (.ref a1), .val (.int (0 : Int32)), .val (.int (2 : Int32)), .val .null, .unset] [(.int (2 : Int32))])) (by intro t k; exact XS.iloadN X1.here hx rfl (hb hby d3_4) rfl k) ?_
  refine go (T' := T1) (f' := (mkF m 27 #[.val (.ref a0), .val (.ref a1), .val (.int (0 : Int32)), .val (.int (2 : Int32)), .val .null, .unset] [])) (by intro t k; exact XS.ifYes X1.here hx rfl (pc0 := 5) (pc' := 27) rfl (hb hby d3_5) rfl ((if0 _ _).trans (feq (by decide : ¬ ((2 : Int32) = (0 : Int32)))).2) (by decide) (by decide) k) ?_
  obtain ⟨T2, X2, e2, st2⟩ := getS2 X1 hx hZ hown (host := "") (Or.inl (hw _ (List.mem_of_getElem? (i := 18) rfl))) Via.refl e1 (S_cs.ext O0.2) (g := (mkF m 27 #[.val (.ref a0), .val (.ref a1), .val (.int (0 : Int32)), .val (.int (2 : Int32)), .val .null, .unset] [])) rfl (hb hby d3_27)
  refine go st2 ?_
  show Run _ _ _ _ _ _ _ T2 (mkF m 30 #[.val (.ref a0), .val (.ref a1), .val (.int (0 : Int32)), .val (.int (2 : Int32)), .val .null, .unset] [(.int cs)])
  refine go (T' := T2) (f' := (mkF m 33 #[.val (.ref a0), .val (.ref a1), .val (.int (0 : Int32)), .val (.int (2 : Int32)), .val .null, .unset] [])) (by intro t k; exact XS.ifNo X2.here hx rfl (hb hby d3_30) rfl ((if0 _ _).trans (feq (hcs : ¬ (cs = (0 : Int32)))).1) k) ?_
  refine go (T' := T2) (f' := (mkF m 34 #[.val (.ref a0), .val (.ref a1), .val (.int (0 : Int32)), .val (.int (2 : Int32)), .val .null, .unset] [(.ref a1)])) (by intro t k; exact XS.aloadN X2.here hx rfl (hb hby d3_33) rfl rfl k) ?_
  refine go (T' := T2) (f' := (mkF m 35 #[.val (.ref a0), .val (.ref a1), .val (.int (0 : Int32)), .val (.int (2 : Int32)), .val .null, .unset] [(.int (0 : Int32)), (.ref a1)])) (by intro t k; exact XS.iloadN X2.here hx rfl (hb hby d3_34) rfl k) ?_
  refine go (T' := T2) (f' := (mkF m 36 #[.val (.ref a0), .val (.ref a1), .val (.int (0 : Int32)), .val (.int (2 : Int32)), .val .null, .unset] [(.int (2 : Int32)), (.int (0 : Int32)), (.ref a1)])) (by intro t k; exact XS.iloadN X2.here hx rfl (hb hby d3_35) rfl k) ?_
  obtain ⟨_, _, ⟨T3, Lz3, kz3, nz3⟩, -, X3, ⟨Lc3, hQ3, lz3, yz3, zz3⟩, st3⟩ := Jvm.LawKit.callS X2 hx (y := (⟨"java/lang/StringUTF16", "compress", "([CII)[B"⟩ : MethodName)) hown (mvT hZ (hw _ (List.mem_of_getElem? (i := 19) rfl))) (mvT hZ (hw _ (List.mem_of_getElem? (i := 20) rfl))) (mvT hZ (hw _ (List.mem_of_getElem? (i := 21) rfl))) (mvT hZ (hw _ (List.mem_of_getElem? (i := 22) rfl))) (by decide) (backOf (W := 0) (rm5n2 l Z aw hw [] a1 c0 c1 h0 n0 Z0 A_a1 hu0 hu1) hZ (hw _ (List.mem_of_getElem? (i := 22) rfl)) (hw _ (List.mem_of_getElem? (i := 21) rfl)) (by decide) (by decide)) (g := (mkF m 36 #[.val (.ref a0), .val (.ref a1), .val (.int (0 : Int32)), .val (.int (2 : Int32)), .val .null, .unset] [(.int (2 : Int32)), (.int (0 : Int32)), (.ref a1)])) rfl (by rw [hml]; rfl) (argsL := [(.ref a1), (.int (0 : Int32)), (.int (2 : Int32))]) (rest := []) (lenOf pd_285bCII295bB rfl) rfl (by show 2 * 0 + _ ≤ _; exact Nat.le_of_eq rfl) (hb hby d3_36) (fun _ _ => ⟨rfl, e2, (by decide : 0 + 1 ≤ _), (by decide : 0 + 2 ≤ _)⟩)
  dsimp only [Pt.U, Pt.locs, Pt.cells, Pt.slots] at X3 lz3 yz3 zz3 st3 hQ3
  subst lz3 yz3 zz3
  obtain ⟨r3, rfl, sz3, N3q, K3, Aq3⟩ := hQ3
  have ne_a0_r3 : a0 ≠ r3 := Nat.ne_of_lt (Nat.lt_of_lt_of_le E_a0.lt sz3)
  have ne_a1_r3 : a1 ≠ r3 := Nat.ne_of_lt (Nat.lt_of_lt_of_le A_a1.lt sz3)
  have ge_r3 : n0 ≤ r3 := Nat.le_trans Z0 sz3
  have sz_r3 : h0.size ≤ r3 := Nat.le_trans (Keep.refl h0 []).1 sz3
  have E3_a0 := Exa.keep E_a0 K3
  have F3_a0_coder := Fld.keep F_c K3 nin0
  have F3_a0_value := Fld.keep F_v K3 nin0
  have A3_a1 := Ary.keep A_a1 K3 nin0
  have O3 : Old Z n0 T3.heap := O0.keep K3 all0
  have Z3 : n0 ≤ T3.heap.size := Nat.le_trans Z0 K3.1
  have KK3 : Keep h0 T3.heap [a0] := (Keep.refl _ _).trans K3 all0
  have N3 := Fr.app N0 N3q
  refine go st3 ?_
  show Run _ _ _ _ _ _ _ T3 (mkF m 39 #[.val (.ref a0), .val (.ref a1), .val (.int (0 : Int32)), .val (.int (2 : Int32)), .val .null, .unset] [(.ref r3)])
  refine go (T' := T3) (f' := (mkF m 41 #[.val (.ref a0), .val (.ref a1), .val (.int (0 : Int32)), .val (.int (2 : Int32)), .val .null, .val (.ref r3)] [])) (by intro t k; exact XS.astore X3.here hx rfl (hb hby d3_39) rfl rfl (l' := #[.val (.ref a0), .val (.ref a1), .val (.int (0 : Int32)), .val (.int (2 : Int32)), .val .null, .val (.ref r3)]) rfl k) ?_
  refine go (T' := T3) (f' := (mkF m 42 #[.val (.ref a0), .val (.ref a1), .val (.int (0 : Int32)), .val (.int (2 : Int32)), .val .null, .val (.ref r3)] [(.ref a0)])) (by intro t k; exact XS.aloadN X3.here hx rfl (hb hby d3_41) rfl rfl k) ?_
  refine go (T' := T3) (f' := (mkF m 44 #[.val (.ref a0), .val (.ref a1), .val (.int (0 : Int32)), .val (.int (2 : Int32)), .val .null, .val (.ref r3)] [(.ref r3), (.ref a0)])) (by intro t k; exact XS.aload X3.here hx rfl (hb hby d3_42) rfl rfl k) ?_
  refine go (T' := T3) (f' := (mkF m 45 #[.val (.ref a0), .val (.ref a1), .val (.int (0 : Int32)), .val (.int (2 : Int32)), .val .null, .val (.ref r3)] [(.int (2 : Int32)), (.ref r3), (.ref a0)])) (by intro t k; exact XS.iloadN X3.here hx rfl (hb hby d3_44) rfl k) ?_
  obtain ⟨_, _, ⟨T4, Lz4, kz4, nz4⟩, -, X4, ⟨Lc4, hQ4, lz4, yz4, zz4⟩, st4⟩ := Jvm.LawKit.callS X3 hx (y := (⟨"java/lang/StringUTF16", "coderFromArrayLen", "([BI)B"⟩ : MethodName)) hown (mvT hZ (hw _ (List.mem_of_getElem? (i := 27) rfl))) (mvT hZ (hw _ (List.mem_of_getElem? (i := 28) rfl))) (mvT hZ (hw _ (List.mem_of_getElem? (i := 21) rfl))) (mvT hZ (hw _ (List.mem_of_getElem? (i := 29) rfl))) (by decide) (backOf (W := 1) (rm7n2 l Z aw hw [] r3 [(.int (nar .byte ((c0).toInt8.toInt32))), (.int (nar .byte ((c1).toInt8.toInt32)))] T3.heap n0 Z3 Aq3 rfl) hZ (hw _ (List.mem_of_getElem? (i := 29) rfl)) (hw _ (List.mem_of_getElem? (i := 21) rfl)) (by decide) (by decide)) (g := (mkF m 45 #[.val (.ref a0), .val (.ref a1), .val (.int (0 : Int32)), .val (.int (2 : Int32)), .val .null, .val (.ref r3)] [(.int (2 : Int32)), (.ref r3), (.ref a0)])) rfl (by rw [hml]; rfl) (argsL := [(.ref r3), (.int (2 : Int32))]) (rest := [(.ref a0)]) (lenOf pd_285bBI29B rfl) rfl (by show 2 * 0 + _ ≤ _; exact Nat.le_of_eq rfl) (hb hby d3_45) (fun _ _ => ⟨rfl, rfl, (by decide : 1 + 0 ≤ _), (by decide : 2 + 0 ≤ _)⟩)
  dsimp only [Pt.U, Pt.locs, Pt.cells, Pt.slots] at X4 lz4 yz4 zz4 st4 hQ4
  subst lz4 yz4 zz4
  obtain ⟨rfl, N4q, e4⟩ := hQ4
  have N4 := Fr.app N3 N4q
  refine go st4 ?_
  show Run _ _ _ _ _ _ _ T4 (mkF m 48 #[.val (.ref a0), .val (.ref a1), .val (.int (0 : Int32)), .val (.int (2 : Int32)), .val .null, .val (.ref r3)] [(.int (0 : Int32)), (.ref a0)])
  obtain ⟨T5, h5, X5, e5, W5, st5⟩ := putFN X4 hx hZ hown (hw _ (List.mem_of_getElem? (i := 30) rfl)) Via.refl e4 F3_a0_coder E3_a0 (Or.inr ⟨(hw _ (List.mem_of_getElem? (i := 31) rfl)), rfl, hnm⟩) (hw _ (List.mem_of_getElem? (i := 6) rfl)) (ty := .byte) (v' := (.int (0 : Int32))) (by decide) rfl rfl (g := (mkF m 48 #[.val (.ref a0), .val (.ref a1), .val (.int (0 : Int32)), .val (.int (2 : Int32)), .val .null, .val (.ref r3)] [(.int (0 : Int32)), (.ref a0)])) rfl rfl (hb hby d3_48)
  have K5 : Keep T3.heap h5 [a0] := Keep.of_wr W5
  have F5_a0_coder : Fld Z h5 a0 "java/lang/String" "coder" "B" (.int (0 : Int32)) := F3_a0_coder.same W5
  have F5_a0_value := Fld.other W5 F3_a0_value (Or.inr (slot_ne (Or.inr (hw _ (List.mem_of_getElem? (i := 33) rfl))) (Or.inr (hw _ (List.mem_of_getElem? (i := 31) rfl))) (by decide) (t := (.array .byte)) (t' := .byte) (by decide) (by decide)))
  have N5 := Fr.snoc X5 N4 g_a0
  have E5_a0 := Exa.keep E3_a0 K5
  have A5_a1 := Ary.keep A3_a1 K5 (ninS (Ne.symm n_01) nin0)
  have A5_r3 := Ary.keep Aq3 K5 (ninS (Ne.symm ne_a0_r3) nin0)
  have O5 : Old Z n0 h5 := O3.keep K5 (allS g_a0 all0)
  have Z5 : n0 ≤ h5.size := Nat.le_trans Z3 K5.1
  have KK5 : Keep h0 h5 [a0] := KK3.trans K5 (allS (Or.inl (List.mem_of_getElem? (i := 0) rfl)) all0)
  refine go st5 ?_
  show Run _ _ _ _ _ _ _ T5 (mkF m 51 #[.val (.ref a0), .val (.ref a1), .val (.int (0 : Int32)), .val (.int (2 : Int32)), .val .null, .val (.ref r3)] [])
  refine go (T' := T5) (f' := (mkF m 52 #[.val (.ref a0), .val (.ref a1), .val (.int (0 : Int32)), .val (.int (2 : Int32)), .val .null, .val (.ref r3)] [(.ref a0)])) (by intro t k; exact XS.aloadN X5.here hx rfl (hb hby d3_51) rfl rfl k) ?_
  refine go (T' := T5) (f' := (mkF m 54 #[.val (.ref a0), .val (.ref a1), .val (.int (0 : Int32)), .val (.int (2 : Int32)), .val .null, .val (.ref r3)] [(.ref r3), (.ref a0)])) (by intro t k; exact XS.aload X5.here hx rfl (hb hby d3_52) rfl rfl k) ?_
  obtain ⟨T6, h6, X6, e6, W6, st6⟩ := putF X5 hx hZ hown (host := "") (Or.inl (hw _ (List.mem_of_getElem? (i := 32) rfl))) Via.refl e5 F5_a0_value E5_a0 (Or.inr ⟨(hw _ (List.mem_of_getElem? (i := 33) rfl)), rfl, hnm⟩) (hw _ (List.mem_of_getElem? (i := 6) rfl)) (ty := (.array .byte)) (by decide) rfl rfl (g := (mkF m 54 #[.val (.ref a0), .val (.ref a1), .val (.int (0 : Int32)), .val (.int (2 : Int32)), .val .null, .val (.ref r3)] [(.ref r3), (.ref a0)])) rfl rfl (hb hby d3_54)
  have K6 : Keep h5 h6 [a0] := Keep.of_wr W6
  have F6_a0_coder := Fld.other W6 F5_a0_coder (Or.inr (slot_ne (Or.inr (hw _ (List.mem_of_getElem? (i := 31) rfl))) (Or.inr (hw _ (List.mem_of_getElem? (i := 33) rfl))) (by decide) (t := .byte) (t' := (.array .byte)) (by decide) (by decide)))
  have F6_a0_value : Fld Z h6 a0 "java/lang/String" "value" "[B" (.ref r3) := F5_a0_value.same W6
  have N6 := Fr.snoc X6 N5 g_a0
  have E6_a0 := Exa.keep E5_a0 K6
  have A6_a1 := Ary.keep A5_a1 K6 (ninS (Ne.symm n_01) nin0)
  have A6_r3 := Ary.keep A5_r3 K6 (ninS (Ne.symm ne_a0_r3) nin0)
  have O6 : Old Z n0 h6 := O5.keep K6 (allS g_a0 all0)
  have Z6 : n0 ≤ h6.size := Nat.le_trans Z5 K6.1
  have KK6 : Keep h0 h6 [a0] := KK5.trans K6 (allS (Or.inl (List.mem_of_getElem? (i := 0) rfl)) all0)
  refine go st6 ?_
  show Run _ _ _ _ _ _ _ T6 (mkF m 57 #[.val (.ref a0), .val (.ref a1), .val (.int (0 : Int32)), .val (.int (2 : Int32)), .val .null, .val (.ref r3)] [])
  refine retV X6 hx Bd.returns (hb hby d3_57) hlk (by decide) (by decide) ?_
  show Q3n2 Z a0 a1 cs c0 c1 h0 n0 _ T6.heap _
  rw [e6]
  exact ⟨rfl, N6, KK6, ⟨_, sz_r3, F6_a0_coder, F6_a0_value, A6_r3⟩⟩
theorem d2_0 : decode jdk_42_method_3_code 0 = .ok (.aload_n 0, 1) := by decide +kernel
theorem d2_1 : decode jdk_42_method_3_code 1 = .ok (.aload_n 1, 1) := by decide +kernel
theorem d2_2 : decode jdk_42_method_3_code 2 = .ok (.iconst 0, 1) := by decide +kernel
theorem d2_3 : decode jdk_42_method_3_code 3 = .ok (.aload_n 1, 1) := by decide +kernel
theorem d2_4 : decode jdk_42_method_3_code 4 = .ok (.arraylength, 1) := by decide +kernel
theorem d2_5 : decode jdk_42_method_3_code 5 = .ok (.aconst_null, 1) := by decide +kernel
theorem d2_6 : decode jdk_42_method_3_code 6 = .ok (.invokespecial 27, 3) := by decide +kernel
theorem d2_9 : decode jdk_42_method_3_code 9 = .ok (.return_, 1) := by decide +kernel
theorem pd_285bCIILjava2flang2fVoid3b29V : parseMethodDescriptor "([CIILjava/lang/Void;)V" = some ⟨[(.array .char), .int, .int, (.object "java/lang/Void")], none⟩ := by decide +kernel
theorem ef_2n1 (m : MethodId) (x0 : Addr) (x1 : Addr) : entryFrame m #[(.ref x0), (.ref x1)] 2 = mkF m 0 #[.val (.ref x0), .val (.ref x1)] [] := by first | (simp [entryFrame, mkF, argsToLocals, Value.category]; done) | rfl
def Q2n1 (Z : State) (a0 : Addr) (a1 : Addr) (cs : Int32) (c0 : Int32) (h0 : Heap) (n0 : Nat) (v : Option Value) (h : Heap) (L : List Loc) : Prop := v = none ∧ Fr n0 L ∧ Keep h0 h [a0] ∧ ∃ b, h0.size ≤ b ∧ Fld Z h a0 "java/lang/String" "coder" "B" (.int (0 : Int32)) ∧ Fld Z h a0 "java/lang/String" "value" "[B" (.ref b) ∧ Ary Z h b .byte [(.int (nar .byte ((c0).toInt8.toInt32)))]
set_option maxRecDepth 65536 in
set_option maxHeartbeats 40000000 in
theorem rm2n1 (l : Launch) (Z : State) (aw : Array Value) (hw : ∀ d ∈ tables_1, d.before aw Z = true) (ws : List Jvm.Cond) (a0 : Addr) (a1 : Addr) (cs : Int32) (c0 : Int32) (h0 : Heap) (n0 : Nat) (Z0 : n0 ≤ h0.size) (O0 : Old Z n0 h0) (S_cs : Sta Z Z.heap "java/lang/String" "COMPACT_STRINGS" "Z" (.int cs)) (hcs : ¬ (cs = (0 : Int32))) (E_a0 : Exa Z h0 a0 "java/lang/String") (F_c : Fld Z h0 a0 "java/lang/String" "coder" "B" (.int (0 : Int32))) (F_v : Fld Z h0 a0 "java/lang/String" "value" "[B" .null) (g_a0 : n0 ≤ a0) (A_a1 : Ary Z h0 a1 .char [(.int c0)]) (n_01 : a0 ≠ a1) (hu0 : ¬ ((255 : Int32) < c0)) :
    MetFree l (⟨"java/lang/String", "<init>", "([C)V"⟩ : MethodName) (head1 (Jvm.Cond.code (⟨"java/lang/String", "<init>", "([C)V"⟩ : MethodName) jdk_42_method_3_code 2 none :: ws) ({ frames := 3, cells := 1, slots := 1, locals := 52 } : Room)) (fun a U => a = #[(.ref a0), (.ref a1)] ∧ Z.Warmed39 U.vm ∧ U.heap = h0) (fun _ _ _ _ _ => True) (fun _ U o U' => ∃ v L, o = .returned v ∧ Q2n1 Z a0 a1 cs c0 h0 n0 v U'.heap L ∧ FrameEnd U o U' L ({ frames := 3, cells := 1, slots := 1, locals := 52 } : Room).cells ({ frames := 3, cells := 1, slots := 1, locals := 52 } : Room).slots) := by
  refine MetFree.of_bodySF (plainFor_of_name pn_3) hisR ?_
  intro p e s m args below meth c s₁ Bd hml0 hP hK
  obtain ⟨rfl, hZ, hh⟩ := hP
  have hx := Bd.exec
  have hby := Bd.bytes
  have hml : c.maxLocals = 2 := hml0
  have hown : s.vm.findClass "java/lang/String" = some m.cls := findClass_of_methodNamed Bd.named
  have hnm := (name_of_methodNamed Bd.named Bd.method).1
  have hlk : meth.locks = false := BodyLoose.notSynchronized Bd
  have X0 : Stand p l e ({ frames := 3, cells := 1, slots := 1, locals := 52 } : Room) s m #[(.ref a0), (.ref a1)] below meth c s₁ [] 0 0 := Stand.of_body Bd
  have e0 : s₁.heap = h0 := by rw [← hh, Bd.state]; rfl
  have N0 := Fr.nil n0
  show Run p e s below (Q2n1 Z a0 a1 cs c0 h0 n0) ({ frames := 3, cells := 1, slots := 1, locals := 52 } : Room).cells ({ frames := 3, cells := 1, slots := 1, locals := 52 } : Room).slots s₁ (entryFrame m #[(.ref a0), (.ref a1)] 2)
  rw [ef_2n1]
  show Run _ _ _ _ _ _ _ s₁ (mkF m 0 #[.val (.ref a0), .val (.ref a1)] [])
  refine go (T' := s₁) (f' := (mkF m 1 #[.val (.ref a0), .val (.ref a1)] [(.ref a0)])) (by intro t k; exact XS.aloadN X0.here hx rfl (hb hby d2_0) rfl rfl k) ?_
  refine go (T' := s₁) (f' := (mkF m 2 #[.val (.ref a0), .val (.ref a1)] [(.ref a1), (.ref a0)])) (by intro t k; exact XS.aloadN X0.here hx rfl (hb hby d2_1) rfl rfl k) ?_
  refine go (T' := s₁) (f' := (mkF m 3 #[.val (.ref a0), .val (.ref a1)] [(.int (0 : Int32)), (.ref a1), (.ref a0)])) (by intro t k; exact XS.iconst X0.here hx rfl (hb hby d2_2) k) ?_
  refine go (T' := s₁) (f' := (mkF m 4 #[.val (.ref a0), .val (.ref a1)] [(.ref a1), (.int (0 : Int32)), (.ref a1), (.ref a0)])) (by intro t k; exact XS.aloadN X0.here hx rfl (hb hby d2_3) rfl rfl k) ?_
  refine go (T' := s₁) (f' := (mkF m 5 #[.val (.ref a0), .val (.ref a1)] [(.int (1 : Int32)), (.int (0 : Int32)), (.ref a1), (.ref a0)])) (by intro t k; exact alen X0 hx hZ e0 A_a1 (z := (1 : Int32)) rfl (g := (mkF m 4 #[.val (.ref a0), .val (.ref a1)] [(.ref a1), (.int (0 : Int32)), (.ref a1), (.ref a0)])) rfl rfl (hb hby d2_4) _ k) ?_
  refine go (T' := s₁) (f' := (mkF m 6 #[.val (.ref a0), .val (.ref a1)] [.null, (.int (1 : Int32)), (.int (0 : Int32)), (.ref a1), (.ref a0)])) (by intro t k; exact XS.aconstNull X0.here hx rfl (hb hby d2_5) k) ?_
  obtain ⟨_, _, ⟨T1, Lz1, kz1, nz1⟩, -, X1, ⟨Lc1, hQ1, lz1, yz1, zz1⟩, st1⟩ := X0.specialBack hx (y := (⟨"java/lang/String", "<init>", "([CIILjava/lang/Void;)V"⟩ : MethodName)) rfl hown (mvT hZ (hw _ (List.mem_of_getElem? (i := 11) rfl))) (mvT hZ (hw _ (List.mem_of_getElem? (i := 12) rfl))) (mvT hZ (hw _ (List.mem_of_getElem? (i := 14) rfl))) (by decide) (backOf (W := 0) (rm3n1 l Z aw hw [] a0 a1 cs c0 h0 n0 Z0 O0 S_cs hcs E_a0 F_c F_v g_a0 A_a1 n_01 hu0) hZ (hw _ (List.mem_of_getElem? (i := 14) rfl)) (hw _ (List.mem_of_getElem? (i := 7) rfl)) (by decide) (by decide)) (g := (mkF m 6 #[.val (.ref a0), .val (.ref a1)] [.null, (.int (1 : Int32)), (.int (0 : Int32)), (.ref a1), (.ref a0)])) rfl (by rw [hml]; rfl) (Steps.refl _) (a := a0) (argsL := [(.ref a1), (.int (0 : Int32)), (.int (1 : Int32)), .null]) (rest := []) (lenOf pd_285bCIILjava2flang2fVoid3b29V rfl) rfl (by show 2 * 0 + _ ≤ _; exact Nat.le_of_eq rfl) (hb hby d2_6) (fun _ _ => ⟨rfl, e0, (by decide : 0 + 1 ≤ _), (by decide : 0 + 1 ≤ _)⟩)
  dsimp only [Pt.U, Pt.locs, Pt.cells, Pt.slots] at X1 lz1 yz1 zz1 st1 hQ1
  subst lz1 yz1 zz1
  obtain ⟨rfl, N1q, K1, sb1, zb1, Fc1, Fv1, Ab1⟩ := hQ1
  have ne_a0_sb1 : a0 ≠ sb1 := Nat.ne_of_lt (Nat.lt_of_lt_of_le E_a0.lt zb1)
  have ne_a1_sb1 : a1 ≠ sb1 := Nat.ne_of_lt (Nat.lt_of_lt_of_le A_a1.lt zb1)
  have ge_sb1 : n0 ≤ sb1 := Nat.le_trans Z0 zb1
  have sz_sb1 : h0.size ≤ sb1 := Nat.le_trans (Keep.refl h0 []).1 zb1
  have E1_a0 := Exa.keep E_a0 K1
  have A1_a1 := Ary.keep A_a1 K1 (ninS (Ne.symm n_01) nin0)
  have O1 : Old Z n0 T1.heap := O0.keep K1 (allS g_a0 all0)
  have Z1 : n0 ≤ T1.heap.size := Nat.le_trans Z0 K1.1
  have KK1 : Keep h0 T1.heap [a0] := (Keep.refl _ _).trans K1 (allS (Or.inl (List.mem_of_getElem? (i := 0) rfl)) all0)
  have N1 := Fr.app N0 N1q
  refine go (fun _ k => st1.trans k) ?_
  show Run _ _ _ _ _ _ _ T1 (mkF m 9 #[.val (.ref a0), .val (.ref a1)] [])
  refine retV X1 hx Bd.returns (hb hby d2_9) hlk (by decide) (by decide) ?_
  show Q2n1 Z a0 a1 cs c0 h0 n0 _ T1.heap _
  exact ⟨rfl, N1, KK1, ⟨_, sz_sb1, Fc1, Fv1, Ab1⟩⟩
theorem ef_2n2 (m : MethodId) (x0 : Addr) (x1 : Addr) : entryFrame m #[(.ref x0), (.ref x1)] 2 = mkF m 0 #[.val (.ref x0), .val (.ref x1)] [] := by first | (simp [entryFrame, mkF, argsToLocals, Value.category]; done) | rfl
def Q2n2 (Z : State) (a0 : Addr) (a1 : Addr) (cs : Int32) (c0 c1 : Int32) (h0 : Heap) (n0 : Nat) (v : Option Value) (h : Heap) (L : List Loc) : Prop := v = none ∧ Fr n0 L ∧ Keep h0 h [a0] ∧ ∃ b, h0.size ≤ b ∧ Fld Z h a0 "java/lang/String" "coder" "B" (.int (0 : Int32)) ∧ Fld Z h a0 "java/lang/String" "value" "[B" (.ref b) ∧ Ary Z h b .byte [(.int (nar .byte ((c0).toInt8.toInt32))), (.int (nar .byte ((c1).toInt8.toInt32)))]
set_option maxRecDepth 65536 in
set_option maxHeartbeats 40000000 in
theorem rm2n2 (l : Launch) (Z : State) (aw : Array Value) (hw : ∀ d ∈ tables_1, d.before aw Z = true) (ws : List Jvm.Cond) (a0 : Addr) (a1 : Addr) (cs : Int32) (c0 c1 : Int32) (h0 : Heap) (n0 : Nat) (Z0 : n0 ≤ h0.size) (O0 : Old Z n0 h0) (S_cs : Sta Z Z.heap "java/lang/String" "COMPACT_STRINGS" "Z" (.int cs)) (hcs : ¬ (cs = (0 : Int32))) (E_a0 : Exa Z h0 a0 "java/lang/String") (F_c : Fld Z h0 a0 "java/lang/String" "coder" "B" (.int (0 : Int32))) (F_v : Fld Z h0 a0 "java/lang/String" "value" "[B" .null) (g_a0 : n0 ≤ a0) (A_a1 : Ary Z h0 a1 .char [(.int c0), (.int c1)]) (n_01 : a0 ≠ a1) (hu0 : ¬ ((255 : Int32) < c0)) (hu1 : ¬ ((255 : Int32) < c1)) :
    MetFree l (⟨"java/lang/String", "<init>", "([C)V"⟩ : MethodName) (head1 (Jvm.Cond.code (⟨"java/lang/String", "<init>", "([C)V"⟩ : MethodName) jdk_42_method_3_code 2 none :: ws) ({ frames := 3, cells := 1, slots := 2, locals := 52 } : Room)) (fun a U => a = #[(.ref a0), (.ref a1)] ∧ Z.Warmed39 U.vm ∧ U.heap = h0) (fun _ _ _ _ _ => True) (fun _ U o U' => ∃ v L, o = .returned v ∧ Q2n2 Z a0 a1 cs c0 c1 h0 n0 v U'.heap L ∧ FrameEnd U o U' L ({ frames := 3, cells := 1, slots := 2, locals := 52 } : Room).cells ({ frames := 3, cells := 1, slots := 2, locals := 52 } : Room).slots) := by
  refine MetFree.of_bodySF (plainFor_of_name pn_3) hisR ?_
  intro p e s m args below meth c s₁ Bd hml0 hP hK
  obtain ⟨rfl, hZ, hh⟩ := hP
  have hx := Bd.exec
  have hby := Bd.bytes
  have hml : c.maxLocals = 2 := hml0
  have hown : s.vm.findClass "java/lang/String" = some m.cls := findClass_of_methodNamed Bd.named
  have hnm := (name_of_methodNamed Bd.named Bd.method).1
  have hlk : meth.locks = false := BodyLoose.notSynchronized Bd
  have X0 : Stand p l e ({ frames := 3, cells := 1, slots := 2, locals := 52 } : Room) s m #[(.ref a0), (.ref a1)] below meth c s₁ [] 0 0 := Stand.of_body Bd
  have e0 : s₁.heap = h0 := by rw [← hh, Bd.state]; rfl
  have N0 := Fr.nil n0
  show Run p e s below (Q2n2 Z a0 a1 cs c0 c1 h0 n0) ({ frames := 3, cells := 1, slots := 2, locals := 52 } : Room).cells ({ frames := 3, cells := 1, slots := 2, locals := 52 } : Room).slots s₁ (entryFrame m #[(.ref a0), (.ref a1)] 2)
  rw [ef_2n2]
  show Run _ _ _ _ _ _ _ s₁ (mkF m 0 #[.val (.ref a0), .val (.ref a1)] [])
  refine go (T' := s₁) (f' := (mkF m 1 #[.val (.ref a0), .val (.ref a1)] [(.ref a0)])) (by intro t k; exact XS.aloadN X0.here hx rfl (hb hby d2_0) rfl rfl k) ?_
  refine go (T' := s₁) (f' := (mkF m 2 #[.val (.ref a0), .val (.ref a1)] [(.ref a1), (.ref a0)])) (by intro t k; exact XS.aloadN X0.here hx rfl (hb hby d2_1) rfl rfl k) ?_
  refine go (T' := s₁) (f' := (mkF m 3 #[.val (.ref a0), .val (.ref a1)] [(.int (0 : Int32)), (.ref a1), (.ref a0)])) (by intro t k; exact XS.iconst X0.here hx rfl (hb hby d2_2) k) ?_
  refine go (T' := s₁) (f' := (mkF m 4 #[.val (.ref a0), .val (.ref a1)] [(.ref a1), (.int (0 : Int32)), (.ref a1), (.ref a0)])) (by intro t k; exact XS.aloadN X0.here hx rfl (hb hby d2_3) rfl rfl k) ?_
  refine go (T' := s₁) (f' := (mkF m 5 #[.val (.ref a0), .val (.ref a1)] [(.int (2 : Int32)), (.int (0 : Int32)), (.ref a1), (.ref a0)])) (by intro t k; exact alen X0 hx hZ e0 A_a1 (z := (2 : Int32)) rfl (g := (mkF m 4 #[.val (.ref a0), .val (.ref a1)] [(.ref a1), (.int (0 : Int32)), (.ref a1), (.ref a0)])) rfl rfl (hb hby d2_4) _ k) ?_
  refine go (T' := s₁) (f' := (mkF m 6 #[.val (.ref a0), .val (.ref a1)] [.null, (.int (2 : Int32)), (.int (0 : Int32)), (.ref a1), (.ref a0)])) (by intro t k; exact XS.aconstNull X0.here hx rfl (hb hby d2_5) k) ?_
  obtain ⟨_, _, ⟨T1, Lz1, kz1, nz1⟩, -, X1, ⟨Lc1, hQ1, lz1, yz1, zz1⟩, st1⟩ := X0.specialBack hx (y := (⟨"java/lang/String", "<init>", "([CIILjava/lang/Void;)V"⟩ : MethodName)) rfl hown (mvT hZ (hw _ (List.mem_of_getElem? (i := 11) rfl))) (mvT hZ (hw _ (List.mem_of_getElem? (i := 12) rfl))) (mvT hZ (hw _ (List.mem_of_getElem? (i := 14) rfl))) (by decide) (backOf (W := 0) (rm3n2 l Z aw hw [] a0 a1 cs c0 c1 h0 n0 Z0 O0 S_cs hcs E_a0 F_c F_v g_a0 A_a1 n_01 hu0 hu1) hZ (hw _ (List.mem_of_getElem? (i := 14) rfl)) (hw _ (List.mem_of_getElem? (i := 7) rfl)) (by decide) (by decide)) (g := (mkF m 6 #[.val (.ref a0), .val (.ref a1)] [.null, (.int (2 : Int32)), (.int (0 : Int32)), (.ref a1), (.ref a0)])) rfl (by rw [hml]; rfl) (Steps.refl _) (a := a0) (argsL := [(.ref a1), (.int (0 : Int32)), (.int (2 : Int32)), .null]) (rest := []) (lenOf pd_285bCIILjava2flang2fVoid3b29V rfl) rfl (by show 2 * 0 + _ ≤ _; exact Nat.le_of_eq rfl) (hb hby d2_6) (fun _ _ => ⟨rfl, e0, (by decide : 0 + 1 ≤ _), (by decide : 0 + 2 ≤ _)⟩)
  dsimp only [Pt.U, Pt.locs, Pt.cells, Pt.slots] at X1 lz1 yz1 zz1 st1 hQ1
  subst lz1 yz1 zz1
  obtain ⟨rfl, N1q, K1, sb1, zb1, Fc1, Fv1, Ab1⟩ := hQ1
  have ne_a0_sb1 : a0 ≠ sb1 := Nat.ne_of_lt (Nat.lt_of_lt_of_le E_a0.lt zb1)
  have ne_a1_sb1 : a1 ≠ sb1 := Nat.ne_of_lt (Nat.lt_of_lt_of_le A_a1.lt zb1)
  have ge_sb1 : n0 ≤ sb1 := Nat.le_trans Z0 zb1
  have sz_sb1 : h0.size ≤ sb1 := Nat.le_trans (Keep.refl h0 []).1 zb1
  have E1_a0 := Exa.keep E_a0 K1
  have A1_a1 := Ary.keep A_a1 K1 (ninS (Ne.symm n_01) nin0)
  have O1 : Old Z n0 T1.heap := O0.keep K1 (allS g_a0 all0)
  have Z1 : n0 ≤ T1.heap.size := Nat.le_trans Z0 K1.1
  have KK1 : Keep h0 T1.heap [a0] := (Keep.refl _ _).trans K1 (allS (Or.inl (List.mem_of_getElem? (i := 0) rfl)) all0)
  have N1 := Fr.app N0 N1q
  refine go (fun _ k => st1.trans k) ?_
  show Run _ _ _ _ _ _ _ T1 (mkF m 9 #[.val (.ref a0), .val (.ref a1)] [])
  refine retV X1 hx Bd.returns (hb hby d2_9) hlk (by decide) (by decide) ?_
  show Q2n2 Z a0 a1 cs c0 c1 h0 n0 _ T1.heap _
  exact ⟨rfl, N1, KK1, ⟨_, sz_sb1, Fc1, Fv1, Ab1⟩⟩
theorem d1_0 : decode method_3_code 0 = .ok (.iload_n 0, 1) := by decide +kernel
theorem d1_1 : decode method_3_code 1 = .ok (.iconst 1, 1) := by decide +kernel
theorem d1_2 : decode method_3_code 2 = .ok (.if_icmp .ne 20, 3) := by decide +kernel
theorem d1_5 : decode method_3_code 5 = .ok (.iconst 1, 1) := by decide +kernel
theorem d1_6 : decode method_3_code 6 = .ok (.newarray .char, 2) := by decide +kernel
theorem d1_8 : decode method_3_code 8 = .ok (.astore_n 3, 1) := by decide +kernel
theorem d1_9 : decode method_3_code 9 = .ok (.aload_n 3, 1) := by decide +kernel
theorem d1_10 : decode method_3_code 10 = .ok (.iconst 0, 1) := by decide +kernel
theorem d1_11 : decode method_3_code 11 = .ok (.iload_n 1, 1) := by decide +kernel
theorem d1_12 : decode method_3_code 12 = .ok (.castore, 1) := by decide +kernel
theorem d1_13 : decode method_3_code 13 = .ok (.new 23, 3) := by decide +kernel
theorem d1_16 : decode method_3_code 16 = .ok (.dup, 1) := by decide +kernel
theorem d1_17 : decode method_3_code 17 = .ok (.aload_n 3, 1) := by decide +kernel
theorem d1_18 : decode method_3_code 18 = .ok (.invokespecial 25, 3) := by decide +kernel
theorem d1_21 : decode method_3_code 21 = .ok (.areturn, 1) := by decide +kernel
theorem pd_285bC29V : parseMethodDescriptor "([C)V" = some ⟨[(.array .char)], none⟩ := by decide +kernel
theorem pn_1 : plainName "com/example/backchain/backchain/model/PredicateEqualsPinLaw" = true := by first | (simp [plainName, overriddenIn]; done) | decide +kernel
theorem ef_1n1 (m : MethodId) (x1 : Int32) (x2 : Int32) : entryFrame m #[(.int (1 : Int32)), (.int x1), (.int x2)] 4 = mkF m 0 #[.val (.int (1 : Int32)), .val (.int x1), .val (.int x2), .unset] [] := by first | (simp [entryFrame, mkF, argsToLocals, Value.category]; done) | rfl
def Q1n1 (Z : State) (p1 : Int32) (p2 : Int32) (cs : Int32) (h0 : Heap) (n0 : Nat) (v : Option Value) (h : Heap) (L : List Loc) : Prop := ∃ r : Addr, v = some (.ref r) ∧ h0.size ≤ r ∧ Fr n0 L ∧ Keep h0 h [] ∧ ∃ b, h0.size ≤ b ∧ r ≠ b ∧ Exa Z h r "java/lang/String" ∧ Fld Z h r "java/lang/String" "coder" "B" (.int (0 : Int32)) ∧ Fld Z h r "java/lang/String" "value" "[B" (.ref b) ∧ Ary Z h b .byte [(.int (nar .byte (((nar .char p1)).toInt8.toInt32)))]
set_option maxRecDepth 65536 in
set_option maxHeartbeats 40000000 in
theorem rm1n1 (l : Launch) (Z : State) (aw : Array Value) (hw : ∀ d ∈ tables_1, d.before aw Z = true) (ws : List Jvm.Cond) (p1 : Int32) (p2 : Int32) (cs : Int32) (h0 : Heap) (n0 : Nat) (Z0 : n0 ≤ h0.size) (O0 : Old Z n0 h0) (S_cs : Sta Z Z.heap "java/lang/String" "COMPACT_STRINGS" "Z" (.int cs)) (hcs : ¬ (cs = (0 : Int32))) (hp1 : ¬ ((255 : Int32) < (nar .char p1))) :
    MetFree l (⟨"com/example/backchain/backchain/model/PredicateEqualsPinLaw", "makeName", "(ICC)Ljava/lang/String;"⟩ : MethodName) (head1 (Jvm.Cond.code (⟨"com/example/backchain/backchain/model/PredicateEqualsPinLaw", "makeName", "(ICC)Ljava/lang/String;"⟩ : MethodName) method_3_code 4 (some (.object "java/lang/String")) :: ws) ({ frames := 4, cells := 3, slots := 6, locals := 66 } : Room)) (fun a U => a = #[(.int (1 : Int32)), (.int p1), (.int p2)] ∧ Z.Warmed39 U.vm ∧ U.heap = h0) (fun _ _ _ _ _ => True) (fun _ U o U' => ∃ v L, o = .returned v ∧ Q1n1 Z p1 p2 cs h0 n0 v U'.heap L ∧ FrameEnd U o U' L ({ frames := 4, cells := 3, slots := 6, locals := 66 } : Room).cells ({ frames := 4, cells := 3, slots := 6, locals := 66 } : Room).slots) := by
  refine MetFree.of_bodySF (plainFor_of_name pn_1) hisR ?_
  intro p e s m args below meth c s₁ Bd hml0 hP hK
  obtain ⟨rfl, hZ, hh⟩ := hP
  have hx := Bd.exec
  have hby := Bd.bytes
  have hml : c.maxLocals = 4 := hml0
  have hown : s.vm.findClass "com/example/backchain/backchain/model/PredicateEqualsPinLaw" = some m.cls := findClass_of_methodNamed Bd.named
  have hnm := (name_of_methodNamed Bd.named Bd.method).1
  have hlk : meth.locks = false := BodyLoose.notSynchronized Bd
  have X0 : Stand p l e ({ frames := 4, cells := 3, slots := 6, locals := 66 } : Room) s m #[(.int (1 : Int32)), (.int p1), (.int p2)] below meth c s₁ [] 0 0 := Stand.of_body Bd
  have e0 : s₁.heap = h0 := by rw [← hh, Bd.state]; rfl
  have N0 := Fr.nil n0
  show Run p e s below (Q1n1 Z p1 p2 cs h0 n0) ({ frames := 4, cells := 3, slots := 6, locals := 66 } : Room).cells ({ frames := 4, cells := 3, slots := 6, locals := 66 } : Room).slots s₁ (entryFrame m #[(.int (1 : Int32)), (.int p1), (.int p2)] 4)
  rw [ef_1n1]
  show Run _ _ _ _ _ _ _ s₁ (mkF m 0 #[.val (.int (1 : Int32)), .val (.int p1), .val (.int p2), .unset] [])
  refine go (T' := s₁) (f' := (mkF m 1 #[.val (.int (1 : Int32)), .val (.int p1), .val (.int p2), .unset] [(.int (1 : Int32))])) (by intro t k; exact XS.iloadN X0.here hx rfl (hb hby d1_0) rfl k) ?_
  refine go (T' := s₁) (f' := (mkF m 2 #[.val (.int (1 : Int32)), .val (.int p1), .val (.int p2), .unset] [(.int (1 : Int32)), (.int (1 : Int32))])) (by intro t k; exact XS.iconst X0.here hx rfl (hb hby d1_1) k) ?_
  refine go (T' := s₁) (f' := (mkF m 5 #[.val (.int (1 : Int32)), .val (.int p1), .val (.int p2), .unset] [])) (by intro t k; exact XS.icmpNo X0.here hx rfl (hb hby d1_2) rfl (teq (rfl : (1 : Int32) = (1 : Int32))).2 k) ?_
  refine go (T' := s₁) (f' := (mkF m 6 #[.val (.int (1 : Int32)), .val (.int p1), .val (.int p2), .unset] [(.int (1 : Int32))])) (by intro t k; exact XS.iconst X0.here hx rfl (hb hby d1_5) k) ?_
  obtain ⟨T1, h1, kA1, X1, e1, E1, A1, EX1, st1⟩ := newPE X0 hx hZ (hw _ (List.mem_of_getElem? (i := 4) rfl)) e0 (g := (mkF m 6 #[.val (.int (1 : Int32)), .val (.int p1), .val (.int p2), .unset] [(.int (1 : Int32))])) rfl (hb hby d1_6) rfl (by decide) (cap := 1) (by decide) (by decide) (by decide) (by decide) (ad := "[C") (by decide)
  obtain ⟨b1, g1⟩ : ∃ z, z = h0.size := ⟨_, rfl⟩
  rw [← g1] at A1 EX1 st1
  have ge_b1 : n0 ≤ b1 := Nat.le_trans Z0 (Nat.le_of_eq g1.symm)
  have sz_b1 : h0.size ≤ b1 := Nat.le_trans (Keep.refl h0 []).1 (Nat.le_of_eq g1.symm)
  have K1 : Keep h0 h1 [] := (Keep.refl _ _).ext E1
  have O1 : Old Z n0 h1 := O0.keep K1 all0
  have Z1 : n0 ≤ h1.size := Nat.le_trans Z0 K1.1
  have KK1 : Keep h0 h1 [] := (Keep.refl _ _).trans K1 all0
  have V1 : Ary Z h1 b1 .char [(.int (0 : Int32))] := Ary.new A1
  refine go st1 ?_
  show Run _ _ _ _ _ _ _ T1 (mkF m 8 #[.val (.int (1 : Int32)), .val (.int p1), .val (.int p2), .unset] [(.ref b1)])
  refine go (T' := T1) (f' := (mkF m 9 #[.val (.int (1 : Int32)), .val (.int p1), .val (.int p2), .val (.ref b1)] [])) (by intro t k; exact XS.astoreN X1.here hx rfl (hb hby d1_8) rfl rfl (l' := #[.val (.int (1 : Int32)), .val (.int p1), .val (.int p2), .val (.ref b1)]) rfl k) ?_
  refine go (T' := T1) (f' := (mkF m 10 #[.val (.int (1 : Int32)), .val (.int p1), .val (.int p2), .val (.ref b1)] [(.ref b1)])) (by intro t k; exact XS.aloadN X1.here hx rfl (hb hby d1_9) rfl rfl k) ?_
  refine go (T' := T1) (f' := (mkF m 11 #[.val (.int (1 : Int32)), .val (.int p1), .val (.int p2), .val (.ref b1)] [(.int (0 : Int32)), (.ref b1)])) (by intro t k; exact XS.iconst X1.here hx rfl (hb hby d1_10) k) ?_
  refine go (T' := T1) (f' := (mkF m 12 #[.val (.int (1 : Int32)), .val (.int p1), .val (.int p2), .val (.ref b1)] [(.int p1), (.int (0 : Int32)), (.ref b1)])) (by intro t k; exact XS.iloadN X1.here hx rfl (hb hby d1_11) rfl k) ?_
  obtain ⟨cl2, Ar2, hin2⟩ := Ary.st (j := (0 : Int32)) V1 (by decide) (by show (0 : Int32).toNatClampNeg < 1; decide)
  obtain ⟨T2, h2, X2, e2, W2, st2⟩ := stC X1 hx hZ e1 Ar2 (j := (0 : Int32)) hin2 (g := (mkF m 12 #[.val (.int (1 : Int32)), .val (.int p1), .val (.int p2), .val (.ref b1)] [(.int p1), (.int (0 : Int32)), (.ref b1)])) rfl rfl (hb hby d1_12)
  have K2 : Keep h1 h2 [b1] := Keep.of_wr W2
  have V2 : Ary Z h2 b1 .char [(.int (nar .char p1))] := Ary.set V1 W2 (fits_nar_char _)
  have N2 := Fr.snoc X2 N0 ge_b1
  have E2_b1 := Exa.keep EX1 K2
  have O2 : Old Z n0 h2 := O1.keep K2 (allS ge_b1 all0)
  have Z2 : n0 ≤ h2.size := Nat.le_trans Z1 K2.1
  have KK2 : Keep h0 h2 [] := KK1.trans K2 (allS (Or.inr sz_b1) all0)
  refine go st2 ?_
  show Run _ _ _ _ _ _ _ T2 (mkF m 13 #[.val (.int (1 : Int32)), .val (.int p1), .val (.int p2), .val (.ref b1)] [])
  obtain ⟨T3, h3, X3, e3, E3, A3, D3, -, st3⟩ := newO X2 hx hZ hown (hw _ (List.mem_of_getElem? (i := 5) rfl)) (hw _ (List.mem_of_getElem? (i := 6) rfl)) (hw _ (List.mem_of_getElem? (i := 7) rfl)) e2 (g := (mkF m 13 #[.val (.int (1 : Int32)), .val (.int p1), .val (.int p2), .val (.ref b1)] [])) rfl (hb hby d1_13) (by decide) (by decide)
  obtain ⟨b3, g3⟩ : ∃ z, z = h2.size := ⟨_, rfl⟩
  rw [← g3] at A3 D3 st3
  have ne_b1_b3 : b1 ≠ b3 := Nat.ne_of_lt (Nat.lt_of_lt_of_eq E2_b1.lt g3.symm)
  have ge_b3 : n0 ≤ b3 := Nat.le_trans Z2 (Nat.le_of_eq g3.symm)
  have sz_b3 : h0.size ≤ b3 := Nat.le_trans KK2.1 (Nat.le_of_eq g3.symm)
  have K3 : Keep h2 h3 [] := (Keep.refl _ _).ext E3
  have E3_b1 := Exa.keep E2_b1 K3
  have A3_b1 := Ary.keep V2 K3 nin0
  have O3 : Old Z n0 h3 := O2.keep K3 all0
  have Z3 : n0 ≤ h3.size := Nat.le_trans Z2 K3.1
  have KK3 : Keep h0 h3 [] := KK2.trans K3 all0
  have F3_b3_coder : Fld Z h3 b3 "java/lang/String" "coder" "B" (.int (0 : Int32)) := D3 (Or.inr (hw _ (List.mem_of_getElem? (i := 31) rfl))) (ty := .byte) (by decide)
  have F3_b3_value : Fld Z h3 b3 "java/lang/String" "value" "[B" .null := D3 (Or.inr (hw _ (List.mem_of_getElem? (i := 33) rfl))) (ty := (.array .byte)) (by decide)
  refine go st3 ?_
  show Run _ _ _ _ _ _ _ T3 (mkF m 16 #[.val (.int (1 : Int32)), .val (.int p1), .val (.int p2), .val (.ref b1)] [(.ref b3)])
  refine go (T' := T3) (f' := (mkF m 17 #[.val (.int (1 : Int32)), .val (.int p1), .val (.int p2), .val (.ref b1)] [(.ref b3), (.ref b3)])) (by intro t k; exact XS.dup X3.here hx rfl (hb hby d1_16) rfl rfl k) ?_
  refine go (T' := T3) (f' := (mkF m 18 #[.val (.int (1 : Int32)), .val (.int p1), .val (.int p2), .val (.ref b1)] [(.ref b1), (.ref b3), (.ref b3)])) (by intro t k; exact XS.aloadN X3.here hx rfl (hb hby d1_17) rfl rfl k) ?_
  obtain ⟨_, _, ⟨T4, Lz4, kz4, nz4⟩, -, X4, ⟨Lc4, hQ4, lz4, yz4, zz4⟩, st4⟩ := X3.specialBack hx (y := (⟨"java/lang/String", "<init>", "([C)V"⟩ : MethodName)) rfl hown (mvT hZ (hw _ (List.mem_of_getElem? (i := 8) rfl))) (mvT hZ (hw _ (List.mem_of_getElem? (i := 9) rfl))) (mvT hZ (hw _ (List.mem_of_getElem? (i := 10) rfl))) (by decide) (backOf (W := 1) (rm2n1 l Z aw hw [] b3 b1 cs (nar .char p1) h3 n0 Z3 O3 S_cs hcs A3 F3_b3_coder F3_b3_value ge_b3 A3_b1 (Ne.symm ne_b1_b3) hp1) hZ (hw _ (List.mem_of_getElem? (i := 10) rfl)) (hw _ (List.mem_of_getElem? (i := 7) rfl)) (by decide) (by decide)) (g := (mkF m 18 #[.val (.int (1 : Int32)), .val (.int p1), .val (.int p2), .val (.ref b1)] [(.ref b1), (.ref b3), (.ref b3)])) rfl (by rw [hml]; rfl) (Steps.refl _) (a := b3) (argsL := [(.ref b1)]) (rest := [(.ref b3)]) (lenOf pd_285bC29V rfl) rfl (by show 2 * 0 + _ ≤ _; exact Nat.le_of_eq rfl) (hb hby d1_18) (fun _ _ => ⟨rfl, e3, (by decide : 2 + 1 ≤ _), (by decide : 5 + 1 ≤ _)⟩)
  dsimp only [Pt.U, Pt.locs, Pt.cells, Pt.slots] at X4 lz4 yz4 zz4 st4 hQ4
  subst lz4 yz4 zz4
  obtain ⟨rfl, N4q, K4, sb4, zb4, Fc4, Fv4, Ab4⟩ := hQ4
  have ne_b1_sb4 : b1 ≠ sb4 := Nat.ne_of_lt (Nat.lt_of_lt_of_le E3_b1.lt zb4)
  have ne_b3_sb4 : b3 ≠ sb4 := Nat.ne_of_lt (Nat.lt_of_lt_of_le A3.lt zb4)
  have ge_sb4 : n0 ≤ sb4 := Nat.le_trans Z3 zb4
  have sz_sb4 : h0.size ≤ sb4 := Nat.le_trans KK3.1 zb4
  have E4_b1 := Exa.keep E3_b1 K4
  have E4_b3 := Exa.keep A3 K4
  have A4_b1 := Ary.keep A3_b1 K4 (ninS ne_b1_b3 nin0)
  have O4 : Old Z n0 T4.heap := O3.keep K4 (allS ge_b3 all0)
  have Z4 : n0 ≤ T4.heap.size := Nat.le_trans Z3 K4.1
  have KK4 : Keep h0 T4.heap [] := KK3.trans K4 (allS (Or.inr sz_b3) all0)
  have N4 := Fr.app N2 N4q
  refine go (fun _ k => st4.trans k) ?_
  show Run _ _ _ _ _ _ _ T4 (mkF m 21 #[.val (.int (1 : Int32)), .val (.int p1), .val (.int p2), .val (.ref b1)] [(.ref b3)])
  refine retW X4 hx (t := (.object "java/lang/String")) Bd.returns rfl (Or.inr (Or.inr (Or.inr (Or.inr ⟨rfl, rfl, rfl⟩)))) (hb hby d1_21) hlk (by decide) (by decide) ?_
  show Q1n1 Z p1 p2 cs h0 n0 _ T4.heap _
  have hv : h0.size ≤ b3 := by
    exact sz_b3
  exact ⟨_, rfl, hv, N4, KK4, ⟨_, sz_sb4, ne_b3_sb4, E4_b3, Fc4, Fv4, Ab4⟩⟩
theorem d1_22 : decode method_3_code 22 = .ok (.iconst 2, 1) := by decide +kernel
theorem d1_23 : decode method_3_code 23 = .ok (.newarray .char, 2) := by decide +kernel
theorem d1_25 : decode method_3_code 25 = .ok (.astore_n 3, 1) := by decide +kernel
theorem d1_26 : decode method_3_code 26 = .ok (.aload_n 3, 1) := by decide +kernel
theorem d1_27 : decode method_3_code 27 = .ok (.iconst 0, 1) := by decide +kernel
theorem d1_28 : decode method_3_code 28 = .ok (.iload_n 1, 1) := by decide +kernel
theorem d1_29 : decode method_3_code 29 = .ok (.castore, 1) := by decide +kernel
theorem d1_30 : decode method_3_code 30 = .ok (.aload_n 3, 1) := by decide +kernel
theorem d1_31 : decode method_3_code 31 = .ok (.iconst 1, 1) := by decide +kernel
theorem d1_32 : decode method_3_code 32 = .ok (.iload_n 2, 1) := by decide +kernel
theorem d1_33 : decode method_3_code 33 = .ok (.castore, 1) := by decide +kernel
theorem d1_34 : decode method_3_code 34 = .ok (.new 23, 3) := by decide +kernel
theorem d1_37 : decode method_3_code 37 = .ok (.dup, 1) := by decide +kernel
theorem d1_38 : decode method_3_code 38 = .ok (.aload_n 3, 1) := by decide +kernel
theorem d1_39 : decode method_3_code 39 = .ok (.invokespecial 25, 3) := by decide +kernel
theorem d1_42 : decode method_3_code 42 = .ok (.areturn, 1) := by decide +kernel
theorem ef_1n2 (m : MethodId) (x1 : Int32) (x2 : Int32) : entryFrame m #[(.int (2 : Int32)), (.int x1), (.int x2)] 4 = mkF m 0 #[.val (.int (2 : Int32)), .val (.int x1), .val (.int x2), .unset] [] := by first | (simp [entryFrame, mkF, argsToLocals, Value.category]; done) | rfl
def Q1n2 (Z : State) (p1 : Int32) (p2 : Int32) (cs : Int32) (h0 : Heap) (n0 : Nat) (v : Option Value) (h : Heap) (L : List Loc) : Prop := ∃ r : Addr, v = some (.ref r) ∧ h0.size ≤ r ∧ Fr n0 L ∧ Keep h0 h [] ∧ ∃ b, h0.size ≤ b ∧ r ≠ b ∧ Exa Z h r "java/lang/String" ∧ Fld Z h r "java/lang/String" "coder" "B" (.int (0 : Int32)) ∧ Fld Z h r "java/lang/String" "value" "[B" (.ref b) ∧ Ary Z h b .byte [(.int (nar .byte (((nar .char p1)).toInt8.toInt32))), (.int (nar .byte (((nar .char p2)).toInt8.toInt32)))]
set_option maxRecDepth 65536 in
set_option maxHeartbeats 40000000 in
theorem rm1n2 (l : Launch) (Z : State) (aw : Array Value) (hw : ∀ d ∈ tables_1, d.before aw Z = true) (ws : List Jvm.Cond) (p1 : Int32) (p2 : Int32) (cs : Int32) (h0 : Heap) (n0 : Nat) (Z0 : n0 ≤ h0.size) (O0 : Old Z n0 h0) (S_cs : Sta Z Z.heap "java/lang/String" "COMPACT_STRINGS" "Z" (.int cs)) (hcs : ¬ (cs = (0 : Int32))) (hp1 : ¬ ((255 : Int32) < (nar .char p1))) (hp2 : ¬ ((255 : Int32) < (nar .char p2))) :
    MetFree l (⟨"com/example/backchain/backchain/model/PredicateEqualsPinLaw", "makeName", "(ICC)Ljava/lang/String;"⟩ : MethodName) (head1 (Jvm.Cond.code (⟨"com/example/backchain/backchain/model/PredicateEqualsPinLaw", "makeName", "(ICC)Ljava/lang/String;"⟩ : MethodName) method_3_code 4 (some (.object "java/lang/String")) :: ws) ({ frames := 4, cells := 3, slots := 8, locals := 66 } : Room)) (fun a U => a = #[(.int (2 : Int32)), (.int p1), (.int p2)] ∧ Z.Warmed39 U.vm ∧ U.heap = h0) (fun _ _ _ _ _ => True) (fun _ U o U' => ∃ v L, o = .returned v ∧ Q1n2 Z p1 p2 cs h0 n0 v U'.heap L ∧ FrameEnd U o U' L ({ frames := 4, cells := 3, slots := 8, locals := 66 } : Room).cells ({ frames := 4, cells := 3, slots := 8, locals := 66 } : Room).slots) := by
  refine MetFree.of_bodySF (plainFor_of_name pn_1) hisR ?_
  intro p e s m args below meth c s₁ Bd hml0 hP hK
  obtain ⟨rfl, hZ, hh⟩ := hP
  have hx := Bd.exec
  have hby := Bd.bytes
  have hml : c.maxLocals = 4 := hml0
  have hown : s.vm.findClass "com/example/backchain/backchain/model/PredicateEqualsPinLaw" = some m.cls := findClass_of_methodNamed Bd.named
  have hnm := (name_of_methodNamed Bd.named Bd.method).1
  have hlk : meth.locks = false := BodyLoose.notSynchronized Bd
  have X0 : Stand p l e ({ frames := 4, cells := 3, slots := 8, locals := 66 } : Room) s m #[(.int (2 : Int32)), (.int p1), (.int p2)] below meth c s₁ [] 0 0 := Stand.of_body Bd
  have e0 : s₁.heap = h0 := by rw [← hh, Bd.state]; rfl
  have N0 := Fr.nil n0
  show Run p e s below (Q1n2 Z p1 p2 cs h0 n0) ({ frames := 4, cells := 3, slots := 8, locals := 66 } : Room).cells ({ frames := 4, cells := 3, slots := 8, locals := 66 } : Room).slots s₁ (entryFrame m #[(.int (2 : Int32)), (.int p1), (.int p2)] 4)
  rw [ef_1n2]
  show Run _ _ _ _ _ _ _ s₁ (mkF m 0 #[.val (.int (2 : Int32)), .val (.int p1), .val (.int p2), .unset] [])
  refine go (T' := s₁) (f' := (mkF m 1 #[.val (.int (2 : Int32)), .val (.int p1), .val (.int p2), .unset] [(.int (2 : Int32))])) (by intro t k; exact XS.iloadN X0.here hx rfl (hb hby d1_0) rfl k) ?_
  refine go (T' := s₁) (f' := (mkF m 2 #[.val (.int (2 : Int32)), .val (.int p1), .val (.int p2), .unset] [(.int (1 : Int32)), (.int (2 : Int32))])) (by intro t k; exact XS.iconst X0.here hx rfl (hb hby d1_1) k) ?_
  refine go (T' := s₁) (f' := (mkF m 22 #[.val (.int (2 : Int32)), .val (.int p1), .val (.int p2), .unset] [])) (by intro t k; exact XS.icmpYes X0.here hx rfl (pc0 := 2) (pc' := 22) rfl (hb hby d1_2) rfl (feq (by decide : ¬ ((2 : Int32) = (1 : Int32)))).2 (by decide) (by decide) k) ?_
  refine go (T' := s₁) (f' := (mkF m 23 #[.val (.int (2 : Int32)), .val (.int p1), .val (.int p2), .unset] [(.int (2 : Int32))])) (by intro t k; exact XS.iconst X0.here hx rfl (hb hby d1_22) k) ?_
  obtain ⟨T1, h1, kA1, X1, e1, E1, A1, EX1, st1⟩ := newPE X0 hx hZ (hw _ (List.mem_of_getElem? (i := 4) rfl)) e0 (g := (mkF m 23 #[.val (.int (2 : Int32)), .val (.int p1), .val (.int p2), .unset] [(.int (2 : Int32))])) rfl (hb hby d1_23) rfl (by decide) (cap := 2) (by decide) (by decide) (by decide) (by decide) (ad := "[C") (by decide)
  obtain ⟨b1, g1⟩ : ∃ z, z = h0.size := ⟨_, rfl⟩
  rw [← g1] at A1 EX1 st1
  have ge_b1 : n0 ≤ b1 := Nat.le_trans Z0 (Nat.le_of_eq g1.symm)
  have sz_b1 : h0.size ≤ b1 := Nat.le_trans (Keep.refl h0 []).1 (Nat.le_of_eq g1.symm)
  have K1 : Keep h0 h1 [] := (Keep.refl _ _).ext E1
  have O1 : Old Z n0 h1 := O0.keep K1 all0
  have Z1 : n0 ≤ h1.size := Nat.le_trans Z0 K1.1
  have KK1 : Keep h0 h1 [] := (Keep.refl _ _).trans K1 all0
  have V1 : Ary Z h1 b1 .char [(.int (0 : Int32)), (.int (0 : Int32))] := Ary.new A1
  refine go st1 ?_
  show Run _ _ _ _ _ _ _ T1 (mkF m 25 #[.val (.int (2 : Int32)), .val (.int p1), .val (.int p2), .unset] [(.ref b1)])
  refine go (T' := T1) (f' := (mkF m 26 #[.val (.int (2 : Int32)), .val (.int p1), .val (.int p2), .val (.ref b1)] [])) (by intro t k; exact XS.astoreN X1.here hx rfl (hb hby d1_25) rfl rfl (l' := #[.val (.int (2 : Int32)), .val (.int p1), .val (.int p2), .val (.ref b1)]) rfl k) ?_
  refine go (T' := T1) (f' := (mkF m 27 #[.val (.int (2 : Int32)), .val (.int p1), .val (.int p2), .val (.ref b1)] [(.ref b1)])) (by intro t k; exact XS.aloadN X1.here hx rfl (hb hby d1_26) rfl rfl k) ?_
  refine go (T' := T1) (f' := (mkF m 28 #[.val (.int (2 : Int32)), .val (.int p1), .val (.int p2), .val (.ref b1)] [(.int (0 : Int32)), (.ref b1)])) (by intro t k; exact XS.iconst X1.here hx rfl (hb hby d1_27) k) ?_
  refine go (T' := T1) (f' := (mkF m 29 #[.val (.int (2 : Int32)), .val (.int p1), .val (.int p2), .val (.ref b1)] [(.int p1), (.int (0 : Int32)), (.ref b1)])) (by intro t k; exact XS.iloadN X1.here hx rfl (hb hby d1_28) rfl k) ?_
  obtain ⟨cl2, Ar2, hin2⟩ := Ary.st (j := (0 : Int32)) V1 (by decide) (by show (0 : Int32).toNatClampNeg < 2; decide)
  obtain ⟨T2, h2, X2, e2, W2, st2⟩ := stC X1 hx hZ e1 Ar2 (j := (0 : Int32)) hin2 (g := (mkF m 29 #[.val (.int (2 : Int32)), .val (.int p1), .val (.int p2), .val (.ref b1)] [(.int p1), (.int (0 : Int32)), (.ref b1)])) rfl rfl (hb hby d1_29)
  have K2 : Keep h1 h2 [b1] := Keep.of_wr W2
  have V2 : Ary Z h2 b1 .char [(.int (nar .char p1)), (.int (0 : Int32))] := Ary.set V1 W2 (fits_nar_char _)
  have N2 := Fr.snoc X2 N0 ge_b1
  have E2_b1 := Exa.keep EX1 K2
  have O2 : Old Z n0 h2 := O1.keep K2 (allS ge_b1 all0)
  have Z2 : n0 ≤ h2.size := Nat.le_trans Z1 K2.1
  have KK2 : Keep h0 h2 [] := KK1.trans K2 (allS (Or.inr sz_b1) all0)
  refine go st2 ?_
  show Run _ _ _ _ _ _ _ T2 (mkF m 30 #[.val (.int (2 : Int32)), .val (.int p1), .val (.int p2), .val (.ref b1)] [])
  refine go (T' := T2) (f' := (mkF m 31 #[.val (.int (2 : Int32)), .val (.int p1), .val (.int p2), .val (.ref b1)] [(.ref b1)])) (by intro t k; exact XS.aloadN X2.here hx rfl (hb hby d1_30) rfl rfl k) ?_
  refine go (T' := T2) (f' := (mkF m 32 #[.val (.int (2 : Int32)), .val (.int p1), .val (.int p2), .val (.ref b1)] [(.int (1 : Int32)), (.ref b1)])) (by intro t k; exact XS.iconst X2.here hx rfl (hb hby d1_31) k) ?_
  refine go (T' := T2) (f' := (mkF m 33 #[.val (.int (2 : Int32)), .val (.int p1), .val (.int p2), .val (.ref b1)] [(.int p2), (.int (1 : Int32)), (.ref b1)])) (by intro t k; exact XS.iloadN X2.here hx rfl (hb hby d1_32) rfl k) ?_
  obtain ⟨cl3, Ar3, hin3⟩ := Ary.st (j := (1 : Int32)) V2 (by decide) (by show (1 : Int32).toNatClampNeg < 2; decide)
  obtain ⟨T3, h3, X3, e3, W3, st3⟩ := stC X2 hx hZ e2 Ar3 (j := (1 : Int32)) hin3 (g := (mkF m 33 #[.val (.int (2 : Int32)), .val (.int p1), .val (.int p2), .val (.ref b1)] [(.int p2), (.int (1 : Int32)), (.ref b1)])) rfl rfl (hb hby d1_33)
  have K3 : Keep h2 h3 [b1] := Keep.of_wr W3
  have V3 : Ary Z h3 b1 .char [(.int (nar .char p1)), (.int (nar .char p2))] := Ary.set V2 W3 (fits_nar_char _)
  have N3 := Fr.snoc X3 N2 ge_b1
  have E3_b1 := Exa.keep E2_b1 K3
  have O3 : Old Z n0 h3 := O2.keep K3 (allS ge_b1 all0)
  have Z3 : n0 ≤ h3.size := Nat.le_trans Z2 K3.1
  have KK3 : Keep h0 h3 [] := KK2.trans K3 (allS (Or.inr sz_b1) all0)
  refine go st3 ?_
  show Run _ _ _ _ _ _ _ T3 (mkF m 34 #[.val (.int (2 : Int32)), .val (.int p1), .val (.int p2), .val (.ref b1)] [])
  obtain ⟨T4, h4, X4, e4, E4, A4, D4, -, st4⟩ := newO X3 hx hZ hown (hw _ (List.mem_of_getElem? (i := 5) rfl)) (hw _ (List.mem_of_getElem? (i := 6) rfl)) (hw _ (List.mem_of_getElem? (i := 7) rfl)) e3 (g := (mkF m 34 #[.val (.int (2 : Int32)), .val (.int p1), .val (.int p2), .val (.ref b1)] [])) rfl (hb hby d1_34) (by decide) (by decide)
  obtain ⟨b4, g4⟩ : ∃ z, z = h3.size := ⟨_, rfl⟩
  rw [← g4] at A4 D4 st4
  have ne_b1_b4 : b1 ≠ b4 := Nat.ne_of_lt (Nat.lt_of_lt_of_eq E3_b1.lt g4.symm)
  have ge_b4 : n0 ≤ b4 := Nat.le_trans Z3 (Nat.le_of_eq g4.symm)
  have sz_b4 : h0.size ≤ b4 := Nat.le_trans KK3.1 (Nat.le_of_eq g4.symm)
  have K4 : Keep h3 h4 [] := (Keep.refl _ _).ext E4
  have E4_b1 := Exa.keep E3_b1 K4
  have A4_b1 := Ary.keep V3 K4 nin0
  have O4 : Old Z n0 h4 := O3.keep K4 all0
  have Z4 : n0 ≤ h4.size := Nat.le_trans Z3 K4.1
  have KK4 : Keep h0 h4 [] := KK3.trans K4 all0
  have F4_b4_coder : Fld Z h4 b4 "java/lang/String" "coder" "B" (.int (0 : Int32)) := D4 (Or.inr (hw _ (List.mem_of_getElem? (i := 31) rfl))) (ty := .byte) (by decide)
  have F4_b4_value : Fld Z h4 b4 "java/lang/String" "value" "[B" .null := D4 (Or.inr (hw _ (List.mem_of_getElem? (i := 33) rfl))) (ty := (.array .byte)) (by decide)
  refine go st4 ?_
  show Run _ _ _ _ _ _ _ T4 (mkF m 37 #[.val (.int (2 : Int32)), .val (.int p1), .val (.int p2), .val (.ref b1)] [(.ref b4)])
  refine go (T' := T4) (f' := (mkF m 38 #[.val (.int (2 : Int32)), .val (.int p1), .val (.int p2), .val (.ref b1)] [(.ref b4), (.ref b4)])) (by intro t k; exact XS.dup X4.here hx rfl (hb hby d1_37) rfl rfl k) ?_
  refine go (T' := T4) (f' := (mkF m 39 #[.val (.int (2 : Int32)), .val (.int p1), .val (.int p2), .val (.ref b1)] [(.ref b1), (.ref b4), (.ref b4)])) (by intro t k; exact XS.aloadN X4.here hx rfl (hb hby d1_38) rfl rfl k) ?_
  obtain ⟨_, _, ⟨T5, Lz5, kz5, nz5⟩, -, X5, ⟨Lc5, hQ5, lz5, yz5, zz5⟩, st5⟩ := X4.specialBack hx (y := (⟨"java/lang/String", "<init>", "([C)V"⟩ : MethodName)) rfl hown (mvT hZ (hw _ (List.mem_of_getElem? (i := 8) rfl))) (mvT hZ (hw _ (List.mem_of_getElem? (i := 9) rfl))) (mvT hZ (hw _ (List.mem_of_getElem? (i := 10) rfl))) (by decide) (backOf (W := 1) (rm2n2 l Z aw hw [] b4 b1 cs (nar .char p1) (nar .char p2) h4 n0 Z4 O4 S_cs hcs A4 F4_b4_coder F4_b4_value ge_b4 A4_b1 (Ne.symm ne_b1_b4) hp1 hp2) hZ (hw _ (List.mem_of_getElem? (i := 10) rfl)) (hw _ (List.mem_of_getElem? (i := 7) rfl)) (by decide) (by decide)) (g := (mkF m 39 #[.val (.int (2 : Int32)), .val (.int p1), .val (.int p2), .val (.ref b1)] [(.ref b1), (.ref b4), (.ref b4)])) rfl (by rw [hml]; rfl) (Steps.refl _) (a := b4) (argsL := [(.ref b1)]) (rest := [(.ref b4)]) (lenOf pd_285bC29V rfl) rfl (by show 2 * 0 + _ ≤ _; exact Nat.le_of_eq rfl) (hb hby d1_39) (fun _ _ => ⟨rfl, e4, (by decide : 2 + 1 ≤ _), (by decide : 6 + 2 ≤ _)⟩)
  dsimp only [Pt.U, Pt.locs, Pt.cells, Pt.slots] at X5 lz5 yz5 zz5 st5 hQ5
  subst lz5 yz5 zz5
  obtain ⟨rfl, N5q, K5, sb5, zb5, Fc5, Fv5, Ab5⟩ := hQ5
  have ne_b1_sb5 : b1 ≠ sb5 := Nat.ne_of_lt (Nat.lt_of_lt_of_le E4_b1.lt zb5)
  have ne_b4_sb5 : b4 ≠ sb5 := Nat.ne_of_lt (Nat.lt_of_lt_of_le A4.lt zb5)
  have ge_sb5 : n0 ≤ sb5 := Nat.le_trans Z4 zb5
  have sz_sb5 : h0.size ≤ sb5 := Nat.le_trans KK4.1 zb5
  have E5_b1 := Exa.keep E4_b1 K5
  have E5_b4 := Exa.keep A4 K5
  have A5_b1 := Ary.keep A4_b1 K5 (ninS ne_b1_b4 nin0)
  have O5 : Old Z n0 T5.heap := O4.keep K5 (allS ge_b4 all0)
  have Z5 : n0 ≤ T5.heap.size := Nat.le_trans Z4 K5.1
  have KK5 : Keep h0 T5.heap [] := KK4.trans K5 (allS (Or.inr sz_b4) all0)
  have N5 := Fr.app N3 N5q
  refine go (fun _ k => st5.trans k) ?_
  show Run _ _ _ _ _ _ _ T5 (mkF m 42 #[.val (.int (2 : Int32)), .val (.int p1), .val (.int p2), .val (.ref b1)] [(.ref b4)])
  refine retW X5 hx (t := (.object "java/lang/String")) Bd.returns rfl (Or.inr (Or.inr (Or.inr (Or.inr ⟨rfl, rfl, rfl⟩)))) (hb hby d1_42) hlk (by decide) (by decide) ?_
  show Q1n2 Z p1 p2 cs h0 n0 _ T5.heap _
  have hv : h0.size ≤ b4 := by
    exact sz_b4
  exact ⟨_, rfl, hv, N5, KK5, ⟨_, sz_sb5, ne_b4_sb5, E5_b4, Fc5, Fv5, Ab5⟩⟩
theorem d9_0 : decode jdk_42_method_55_code 0 = .ok (.aload_n 0, 1) := by decide +kernel
theorem d9_1 : decode jdk_42_method_55_code 1 = .ok (.getfield 9, 3) := by decide +kernel
theorem d9_4 : decode jdk_42_method_55_code 4 = .ok (.arraylength, 1) := by decide +kernel
theorem d9_5 : decode jdk_42_method_55_code 5 = .ok (.ifCond .ne 7, 3) := by decide +kernel
theorem d9_12 : decode jdk_42_method_55_code 12 = .ok (.iconst 0, 1) := by decide +kernel
theorem d9_13 : decode jdk_42_method_55_code 13 = .ok (.ireturn, 1) := by decide +kernel
theorem ef_9 (m : MethodId) (x0 : Addr) : entryFrame m #[(.ref x0)] 1 = mkF m 0 #[.val (.ref x0)] [] := by first | (simp [entryFrame, mkF, argsToLocals, Value.category]; done) | rfl
def Q9 (Z : State) (a0 : Addr) (b : Addr) (vs : List Value) (n : Int32) (h0 : Heap) (n0 : Nat) (v : Option Value) (h : Heap) (L : List Loc) : Prop := v = some (.int (0 : Int32)) ∧ Fr n0 L ∧ h = h0
set_option maxRecDepth 65536 in
set_option maxHeartbeats 40000000 in
theorem rm9 (l : Launch) (Z : State) (aw : Array Value) (hw : ∀ d ∈ tables_1, d.before aw Z = true) (ws : List Jvm.Cond) (a0 : Addr) (b : Addr) (vs : List Value) (n : Int32) (h0 : Heap) (n0 : Nat) (Z0 : n0 ≤ h0.size) (F_v : Fld Z h0 a0 "java/lang/String" "value" "[B" (.ref b)) (A_b : Ary Z h0 b .byte vs) (hlen : vs.length.toInt32 = n) (hn0 : ¬ (n = (0 : Int32))) :
    MetFree l (⟨"java/lang/String", "isEmpty", "()Z"⟩ : MethodName) (head1 (Jvm.Cond.code (⟨"java/lang/String", "isEmpty", "()Z"⟩ : MethodName) jdk_42_method_55_code 1 (some .boolean) :: ws) ({ frames := 0, cells := 0, slots := 0, locals := 0 } : Room)) (fun a U => a = #[(.ref a0)] ∧ Z.Warmed39 U.vm ∧ U.heap = h0) (fun _ _ _ _ _ => True) (fun _ U o U' => ∃ v L, o = .returned v ∧ Q9 Z a0 b vs n h0 n0 v U'.heap L ∧ FrameEnd U o U' L ({ frames := 0, cells := 0, slots := 0, locals := 0 } : Room).cells ({ frames := 0, cells := 0, slots := 0, locals := 0 } : Room).slots) := by
  refine MetFree.of_bodySF (plainFor_of_name pn_3) hisR ?_
  intro p e s m args below meth c s₁ Bd hml0 hP hK
  obtain ⟨rfl, hZ, hh⟩ := hP
  have hx := Bd.exec
  have hby := Bd.bytes
  have hml : c.maxLocals = 1 := hml0
  have hown : s.vm.findClass "java/lang/String" = some m.cls := findClass_of_methodNamed Bd.named
  have hnm := (name_of_methodNamed Bd.named Bd.method).1
  have hlk : meth.locks = false := BodyLoose.notSynchronized Bd
  have X0 : Stand p l e ({ frames := 0, cells := 0, slots := 0, locals := 0 } : Room) s m #[(.ref a0)] below meth c s₁ [] 0 0 := Stand.of_body Bd
  have e0 : s₁.heap = h0 := by rw [← hh, Bd.state]; rfl
  have N0 := Fr.nil n0
  show Run p e s below (Q9 Z a0 b vs n h0 n0) ({ frames := 0, cells := 0, slots := 0, locals := 0 } : Room).cells ({ frames := 0, cells := 0, slots := 0, locals := 0 } : Room).slots s₁ (entryFrame m #[(.ref a0)] 1)
  rw [ef_9]
  show Run _ _ _ _ _ _ _ s₁ (mkF m 0 #[.val (.ref a0)] [])
  refine go (T' := s₁) (f' := (mkF m 1 #[.val (.ref a0)] [(.ref a0)])) (by intro t k; exact XS.aloadN X0.here hx rfl (hb hby d9_0) rfl rfl k) ?_
  obtain ⟨T1, X1, e1, st1⟩ := getF X0 hx hZ hown (host := "") (Or.inl (hw _ (List.mem_of_getElem? (i := 32) rfl))) Via.refl e0 F_v (g := (mkF m 1 #[.val (.ref a0)] [(.ref a0)])) rfl rfl (hb hby d9_1)
  refine go st1 ?_
  show Run _ _ _ _ _ _ _ T1 (mkF m 4 #[.val (.ref a0)] [(.ref b)])
  refine go (T' := T1) (f' := (mkF m 5 #[.val (.ref a0)] [(.int n)])) (by intro t k; exact alen X1 hx hZ e1 A_b (z := n) hlen (g := (mkF m 4 #[.val (.ref a0)] [(.ref b)])) rfl rfl (hb hby d9_4) _ k) ?_
  refine go (T' := T1) (f' := (mkF m 12 #[.val (.ref a0)] [])) (by intro t k; exact XS.ifYes X1.here hx rfl (pc0 := 5) (pc' := 12) rfl (hb hby d9_5) rfl ((if0 _ _).trans (feq (hn0 : ¬ (n = (0 : Int32)))).2) (by decide) (by decide) k) ?_
  refine go (T' := T1) (f' := (mkF m 13 #[.val (.ref a0)] [(.int (0 : Int32))])) (by intro t k; exact XS.iconst X1.here hx rfl (hb hby d9_12) k) ?_
  refine retZ X1 hx (t := .boolean) Bd.returns (by simp) (hb hby d9_13) hlk (by decide) (by decide) ?_
  show Q9 Z a0 b vs n h0 n0 _ T1.heap _
  rw [e1]
  have hv' : (nar .boolean (0 : Int32)) = (0 : Int32) := by
    rfl
  have hv : (some (.int (nar .boolean (0 : Int32))) : Option Value) = some (.int (0 : Int32)) := congrArg (fun z => (some (.int z) : Option Value)) hv'
  exact ⟨hv, N0, rfl⟩
theorem d8_0 : decode prog_24_method_1_code 0 = .ok (.aload_n 0, 1) := by decide +kernel
theorem d8_1 : decode prog_24_method_1_code 1 = .ok (.invokespecial 1, 3) := by decide +kernel
theorem d8_4 : decode prog_24_method_1_code 4 = .ok (.aload_n 1, 1) := by decide +kernel
theorem d8_5 : decode prog_24_method_1_code 5 = .ok (.invokevirtual 7, 3) := by decide +kernel
theorem d8_8 : decode prog_24_method_1_code 8 = .ok (.ifCond .eq 13, 3) := by decide +kernel
theorem d8_21 : decode prog_24_method_1_code 21 = .ok (.iload_n 2, 1) := by decide +kernel
theorem d8_22 : decode prog_24_method_1_code 22 = .ok (.ifCond .ge 18, 3) := by decide +kernel
theorem d8_40 : decode prog_24_method_1_code 40 = .ok (.aload_n 0, 1) := by decide +kernel
theorem d8_41 : decode prog_24_method_1_code 41 = .ok (.aload_n 1, 1) := by decide +kernel
theorem d8_42 : decode prog_24_method_1_code 42 = .ok (.putfield 24, 3) := by decide +kernel
theorem d8_45 : decode prog_24_method_1_code 45 = .ok (.aload_n 0, 1) := by decide +kernel
theorem d8_46 : decode prog_24_method_1_code 46 = .ok (.iload_n 2, 1) := by decide +kernel
theorem d8_47 : decode prog_24_method_1_code 47 = .ok (.putfield 30, 3) := by decide +kernel
theorem d8_50 : decode prog_24_method_1_code 50 = .ok (.return_, 1) := by decide +kernel
theorem pd_2829Z : parseMethodDescriptor "()Z" = some ⟨[], some .boolean⟩ := by decide +kernel
theorem pn_8 : plainName "com/example/backchain/backchain/model/Predicate" = true := by first | (simp [plainName, overriddenIn]; done) | decide +kernel
theorem ef_8 (m : MethodId) (x0 : Addr) (x1 : Addr) (x2 : Int32) : entryFrame m #[(.ref x0), (.ref x1), (.int x2)] 3 = mkF m 0 #[.val (.ref x0), .val (.ref x1), .val (.int x2)] [] := by first | (simp [entryFrame, mkF, argsToLocals, Value.category]; done) | rfl
def Q8 (Z : State) (a0 : Addr) (a1 : Addr) (p2 : Int32) (b : Addr) (vs : List Value) (n : Int32) (h0 : Heap) (n0 : Nat) (v : Option Value) (h : Heap) (L : List Loc) : Prop := v = none ∧ Fr n0 L ∧ Keep h0 h [a0] ∧ Fld Z h a0 "com/example/backchain/backchain/model/Predicate" "name" "Ljava/lang/String;" (.ref a1) ∧ Fld Z h a0 "com/example/backchain/backchain/model/Predicate" "arity" "I" (.int p2)
set_option maxRecDepth 65536 in
set_option maxHeartbeats 40000000 in
theorem rm8 (l : Launch) (Z : State) (aw : Array Value) (hw : ∀ d ∈ tables_1, d.before aw Z = true) (ws : List Jvm.Cond) (a0 : Addr) (a1 : Addr) (p2 : Int32) (b : Addr) (vs : List Value) (n : Int32) (h0 : Heap) (n0 : Nat) (Z0 : n0 ≤ h0.size) (E_a0 : Exa Z h0 a0 "com/example/backchain/backchain/model/Predicate") (F_n : Fld Z h0 a0 "com/example/backchain/backchain/model/Predicate" "name" "Ljava/lang/String;" .null) (F_a : Fld Z h0 a0 "com/example/backchain/backchain/model/Predicate" "arity" "I" (.int (0 : Int32))) (g_a0 : n0 ≤ a0) (E_a1 : Exa Z h0 a1 "java/lang/String") (F_v : Fld Z h0 a1 "java/lang/String" "value" "[B" (.ref b)) (A_b : Ary Z h0 b .byte vs) (n_01 : a0 ≠ a1) (n_0b : a0 ≠ b) (hlen : vs.length.toInt32 = n) (hn0 : ¬ (n = (0 : Int32))) (hp2 : ¬ (p2 < (0 : Int32))) :
    MetFree l (⟨"com/example/backchain/backchain/model/Predicate", "<init>", "(Ljava/lang/String;I)V"⟩ : MethodName) (head1 (Jvm.Cond.code (⟨"com/example/backchain/backchain/model/Predicate", "<init>", "(Ljava/lang/String;I)V"⟩ : MethodName) prog_24_method_1_code 3 none :: ws) ({ frames := 1, cells := 0, slots := 0, locals := 12 } : Room)) (fun a U => a = #[(.ref a0), (.ref a1), (.int p2)] ∧ Z.Warmed39 U.vm ∧ U.heap = h0) (fun _ _ _ _ _ => True) (fun _ U o U' => ∃ v L, o = .returned v ∧ Q8 Z a0 a1 p2 b vs n h0 n0 v U'.heap L ∧ FrameEnd U o U' L ({ frames := 1, cells := 0, slots := 0, locals := 12 } : Room).cells ({ frames := 1, cells := 0, slots := 0, locals := 12 } : Room).slots) := by
  refine MetFree.of_bodySF (plainFor_of_name pn_8) hisR ?_
  intro p e s m args below meth c s₁ Bd hml0 hP hK
  obtain ⟨rfl, hZ, hh⟩ := hP
  have hx := Bd.exec
  have hby := Bd.bytes
  have hml : c.maxLocals = 3 := hml0
  have hown : s.vm.findClass "com/example/backchain/backchain/model/Predicate" = some m.cls := findClass_of_methodNamed Bd.named
  have hnm := (name_of_methodNamed Bd.named Bd.method).1
  have hlk : meth.locks = false := BodyLoose.notSynchronized Bd
  have X0 : Stand p l e ({ frames := 1, cells := 0, slots := 0, locals := 12 } : Room) s m #[(.ref a0), (.ref a1), (.int p2)] below meth c s₁ [] 0 0 := Stand.of_body Bd
  have e0 : s₁.heap = h0 := by rw [← hh, Bd.state]; rfl
  have N0 := Fr.nil n0
  show Run p e s below (Q8 Z a0 a1 p2 b vs n h0 n0) ({ frames := 1, cells := 0, slots := 0, locals := 12 } : Room).cells ({ frames := 1, cells := 0, slots := 0, locals := 12 } : Room).slots s₁ (entryFrame m #[(.ref a0), (.ref a1), (.int p2)] 3)
  rw [ef_8]
  show Run _ _ _ _ _ _ _ s₁ (mkF m 0 #[.val (.ref a0), .val (.ref a1), .val (.int p2)] [])
  refine go (T' := s₁) (f' := (mkF m 1 #[.val (.ref a0), .val (.ref a1), .val (.int p2)] [(.ref a0)])) (by intro t k; exact XS.aloadN X0.here hx rfl (hb hby d8_0) rfl rfl k) ?_
  obtain ⟨T1, X1, e1, st1⟩ := initO X0 hx hZ hown (hw _ (List.mem_of_getElem? (i := 41) rfl)) (hw _ (List.mem_of_getElem? (i := 16) rfl)) (hw _ (List.mem_of_getElem? (i := 17) rfl)) e0 (g := (mkF m 1 #[.val (.ref a0), .val (.ref a1), .val (.int p2)] [(.ref a0)])) rfl (by rw [hml]; rfl) rfl (hb hby d8_1) (by decide) (W := 0) (by show 2 * 0 + _ ≤ _; exact Nat.le_of_eq rfl) (by decide)
  refine go st1 ?_
  show Run _ _ _ _ _ _ _ T1 (mkF m 4 #[.val (.ref a0), .val (.ref a1), .val (.int p2)] [])
  refine go (T' := T1) (f' := (mkF m 5 #[.val (.ref a0), .val (.ref a1), .val (.int p2)] [(.ref a1)])) (by intro t k; exact XS.aloadN X1.here hx rfl (hb hby d8_4) rfl rfl k) ?_
  obtain ⟨cq2, kq2, q2a, q2b, q2c⟩ := isOf hZ e1 E_a1
  obtain ⟨_, _, ⟨T2, Lz2, kz2, nz2⟩, -, X2, ⟨Lc2, hQ2, lz2, yz2, zz2⟩, st2⟩ := X1.virtualBack hx (y := (⟨"java/lang/String", "isEmpty", "()Z"⟩ : MethodName)) (z := (⟨"java/lang/String", "isEmpty", "()Z"⟩ : MethodName)) hown (mvT hZ (hw _ (List.mem_of_getElem? (i := 42) rfl))) (mvT hZ (hw _ (List.mem_of_getElem? (i := 43) rfl))) (notFace_of_selects (args := #[]) (mvT hZ (hw _ (List.mem_of_getElem? (i := 45) rfl)))) (mvT hZ (hw _ (List.mem_of_getElem? (i := 45) rfl))) (mvT hZ (hw _ (List.mem_of_getElem? (i := 44) rfl))) (by decide) (backOf (W := 0) (rm9 l Z aw hw [] a1 b vs n h0 n0 Z0 F_v A_b hlen hn0) hZ (hw _ (List.mem_of_getElem? (i := 46) rfl)) (hw _ (List.mem_of_getElem? (i := 7) rfl)) (by decide) (by decide)) q2a q2c (g := (mkF m 5 #[.val (.ref a0), .val (.ref a1), .val (.int p2)] [(.ref a1)])) rfl (by rw [hml]; rfl) (Steps.refl _) (argsL := []) (rest := []) (lenOf pd_2829Z rfl) rfl (by show 2 * 0 + _ ≤ _; exact Nat.le_of_eq rfl) (hb hby d8_5) (fun _ _ => ⟨rfl, e1, (by decide : 0 + 0 ≤ _), (by decide : 0 + 0 ≤ _)⟩)
  dsimp only [Pt.U, Pt.locs, Pt.cells, Pt.slots] at X2 lz2 yz2 zz2 st2 hQ2
  subst lz2 yz2 zz2
  obtain ⟨rfl, N2q, e2⟩ := hQ2
  have N2 := Fr.app N0 N2q
  refine go (fun _ k => st2.trans k) ?_
  show Run _ _ _ _ _ _ _ T2 (mkF m 8 #[.val (.ref a0), .val (.ref a1), .val (.int p2)] [(.int (0 : Int32))])
  refine go (T' := T2) (f' := (mkF m 21 #[.val (.ref a0), .val (.ref a1), .val (.int p2)] [])) (by intro t k; exact XS.ifYes X2.here hx rfl (pc0 := 8) (pc' := 21) rfl (hb hby d8_8) rfl ((if0 _ _).trans (teq (rfl : (0 : Int32) = (0 : Int32))).1) (by decide) (by decide) k) ?_
  refine go (T' := T2) (f' := (mkF m 22 #[.val (.ref a0), .val (.ref a1), .val (.int p2)] [(.int p2)])) (by intro t k; exact XS.iloadN X2.here hx rfl (hb hby d8_21) rfl k) ?_
  refine go (T' := T2) (f' := (mkF m 40 #[.val (.ref a0), .val (.ref a1), .val (.int p2)] [])) (by intro t k; exact XS.ifYes X2.here hx rfl (pc0 := 22) (pc' := 40) rfl (hb hby d8_22) rfl ((if0 _ _).trans (flt (hp2 : ¬ (p2 < (0 : Int32)))).2.1) (by decide) (by decide) k) ?_
  refine go (T' := T2) (f' := (mkF m 41 #[.val (.ref a0), .val (.ref a1), .val (.int p2)] [(.ref a0)])) (by intro t k; exact XS.aloadN X2.here hx rfl (hb hby d8_40) rfl rfl k) ?_
  refine go (T' := T2) (f' := (mkF m 42 #[.val (.ref a0), .val (.ref a1), .val (.int p2)] [(.ref a1), (.ref a0)])) (by intro t k; exact XS.aloadN X2.here hx rfl (hb hby d8_41) rfl rfl k) ?_
  obtain ⟨T3, h3, X3, e3, W3, st3⟩ := putF X2 hx hZ hown (host := "") (Or.inl (hw _ (List.mem_of_getElem? (i := 47) rfl))) Via.refl e2 F_n E_a0 (Or.inr ⟨(hw _ (List.mem_of_getElem? (i := 48) rfl)), rfl, hnm⟩) (hw _ (List.mem_of_getElem? (i := 36) rfl)) (ty := (.object "java/lang/String")) (by decide) rfl rfl (g := (mkF m 42 #[.val (.ref a0), .val (.ref a1), .val (.int p2)] [(.ref a1), (.ref a0)])) rfl rfl (hb hby d8_42)
  have K3 : Keep h0 h3 [a0] := Keep.of_wr W3
  have F3_a0_name : Fld Z h3 a0 "com/example/backchain/backchain/model/Predicate" "name" "Ljava/lang/String;" (.ref a1) := F_n.same W3
  have F3_a0_arity := Fld.other W3 F_a (Or.inr (slot_ne (Or.inr (hw _ (List.mem_of_getElem? (i := 50) rfl))) (Or.inr (hw _ (List.mem_of_getElem? (i := 48) rfl))) (by decide) (t := .int) (t' := (.object "java/lang/String")) (by decide) (by decide)))
  have N3 := Fr.snoc X3 N2 g_a0
  have E3_a0 := Exa.keep E_a0 K3
  have E3_a1 := Exa.keep E_a1 K3
  have F3_a1_value := Fld.keep F_v K3 (ninS (Ne.symm n_01) nin0)
  have A3_b := Ary.keep A_b K3 (ninS (Ne.symm n_0b) nin0)
  have Z3 : n0 ≤ h3.size := Nat.le_trans Z0 K3.1
  have KK3 : Keep h0 h3 [a0] := (Keep.refl _ _).trans K3 (allS (Or.inl (List.mem_of_getElem? (i := 0) rfl)) all0)
  refine go st3 ?_
  show Run _ _ _ _ _ _ _ T3 (mkF m 45 #[.val (.ref a0), .val (.ref a1), .val (.int p2)] [])
  refine go (T' := T3) (f' := (mkF m 46 #[.val (.ref a0), .val (.ref a1), .val (.int p2)] [(.ref a0)])) (by intro t k; exact XS.aloadN X3.here hx rfl (hb hby d8_45) rfl rfl k) ?_
  refine go (T' := T3) (f' := (mkF m 47 #[.val (.ref a0), .val (.ref a1), .val (.int p2)] [(.int p2), (.ref a0)])) (by intro t k; exact XS.iloadN X3.here hx rfl (hb hby d8_46) rfl k) ?_
  obtain ⟨T4, h4, X4, e4, W4, st4⟩ := putF X3 hx hZ hown (host := "") (Or.inl (hw _ (List.mem_of_getElem? (i := 49) rfl))) Via.refl e3 F3_a0_arity E3_a0 (Or.inr ⟨(hw _ (List.mem_of_getElem? (i := 50) rfl)), rfl, hnm⟩) (hw _ (List.mem_of_getElem? (i := 36) rfl)) (ty := .int) (by decide) rfl rfl (g := (mkF m 47 #[.val (.ref a0), .val (.ref a1), .val (.int p2)] [(.int p2), (.ref a0)])) rfl rfl (hb hby d8_47)
  have K4 : Keep h3 h4 [a0] := Keep.of_wr W4
  have F4_a0_name := Fld.other W4 F3_a0_name (Or.inr (slot_ne (Or.inr (hw _ (List.mem_of_getElem? (i := 48) rfl))) (Or.inr (hw _ (List.mem_of_getElem? (i := 50) rfl))) (by decide) (t := (.object "java/lang/String")) (t' := .int) (by decide) (by decide)))
  have F4_a0_arity : Fld Z h4 a0 "com/example/backchain/backchain/model/Predicate" "arity" "I" (.int p2) := F3_a0_arity.same W4
  have N4 := Fr.snoc X4 N3 g_a0
  have E4_a0 := Exa.keep E3_a0 K4
  have E4_a1 := Exa.keep E3_a1 K4
  have F4_a1_value := Fld.keep F3_a1_value K4 (ninS (Ne.symm n_01) nin0)
  have A4_b := Ary.keep A3_b K4 (ninS (Ne.symm n_0b) nin0)
  have Z4 : n0 ≤ h4.size := Nat.le_trans Z3 K4.1
  have KK4 : Keep h0 h4 [a0] := KK3.trans K4 (allS (Or.inl (List.mem_of_getElem? (i := 0) rfl)) all0)
  refine go st4 ?_
  show Run _ _ _ _ _ _ _ T4 (mkF m 50 #[.val (.ref a0), .val (.ref a1), .val (.int p2)] [])
  refine retV X4 hx Bd.returns (hb hby d8_50) hlk (by decide) (by decide) ?_
  show Q8 Z a0 a1 p2 b vs n h0 n0 _ T4.heap _
  rw [e4]
  exact ⟨rfl, N4, KK4, F4_a0_name, F4_a0_arity⟩
theorem d12_0 : decode jdk_43_method_13_code 0 = .ok (.aload_n 0, 1) := by decide +kernel
theorem d12_1 : decode jdk_43_method_13_code 1 = .ok (.arraylength, 1) := by decide +kernel
theorem d12_2 : decode jdk_43_method_13_code 2 = .ok (.aload_n 1, 1) := by decide +kernel
theorem d12_3 : decode jdk_43_method_13_code 3 = .ok (.arraylength, 1) := by decide +kernel
theorem d12_4 : decode jdk_43_method_13_code 4 = .ok (.if_icmp .ne 30, 3) := by decide +kernel
theorem d12_7 : decode jdk_43_method_13_code 7 = .ok (.iconst 0, 1) := by decide +kernel
theorem d12_8 : decode jdk_43_method_13_code 8 = .ok (.istore_n 2, 1) := by decide +kernel
theorem d12_9 : decode jdk_43_method_13_code 9 = .ok (.iload_n 2, 1) := by decide +kernel
theorem d12_10 : decode jdk_43_method_13_code 10 = .ok (.aload_n 0, 1) := by decide +kernel
theorem d12_11 : decode jdk_43_method_13_code 11 = .ok (.arraylength, 1) := by decide +kernel
theorem d12_12 : decode jdk_43_method_13_code 12 = .ok (.if_icmp .ge 20, 3) := by decide +kernel
theorem d12_15 : decode jdk_43_method_13_code 15 = .ok (.aload_n 0, 1) := by decide +kernel
theorem d12_16 : decode jdk_43_method_13_code 16 = .ok (.iload_n 2, 1) := by decide +kernel
theorem d12_17 : decode jdk_43_method_13_code 17 = .ok (.baload, 1) := by decide +kernel
theorem d12_18 : decode jdk_43_method_13_code 18 = .ok (.aload_n 1, 1) := by decide +kernel
theorem d12_19 : decode jdk_43_method_13_code 19 = .ok (.iload_n 2, 1) := by decide +kernel
theorem d12_20 : decode jdk_43_method_13_code 20 = .ok (.baload, 1) := by decide +kernel
theorem d12_21 : decode jdk_43_method_13_code 21 = .ok (.if_icmp .eq 5, 3) := by decide +kernel
theorem d12_26 : decode jdk_43_method_13_code 26 = .ok (.iinc 2 1, 3) := by decide +kernel
theorem d12_29 : decode jdk_43_method_13_code 29 = .ok (.goto (-20), 3) := by decide +kernel
theorem d12_32 : decode jdk_43_method_13_code 32 = .ok (.iconst 1, 1) := by decide +kernel
theorem d12_33 : decode jdk_43_method_13_code 33 = .ok (.ireturn, 1) := by decide +kernel
theorem d12_24 : decode jdk_43_method_13_code 24 = .ok (.iconst 0, 1) := by decide +kernel
theorem d12_25 : decode jdk_43_method_13_code 25 = .ok (.ireturn, 1) := by decide +kernel
theorem pn_12 : plainName "java/lang/StringLatin1" = true := by first | (simp [plainName, overriddenIn]; done) | decide +kernel
theorem ef_12n11 (m : MethodId) (x0 : Addr) (x1 : Addr) : entryFrame m #[(.ref x0), (.ref x1)] 3 = mkF m 0 #[.val (.ref x0), .val (.ref x1), .unset] [] := by first | (simp [entryFrame, mkF, argsToLocals, Value.category]; done) | rfl
def Q12n11 (Z : State) (a0 : Addr) (a1 : Addr) (b0 d0 : Int32) (h0 : Heap) (n0 : Nat) (v : Option Value) (h : Heap) (L : List Loc) : Prop := v = some (.int (if b0 = d0 then (1 : Int32) else (0 : Int32))) ∧ Fr n0 L ∧ h = h0
set_option maxRecDepth 65536 in
set_option maxHeartbeats 40000000 in
theorem rm12n11 (l : Launch) (Z : State) (aw : Array Value) (hw : ∀ d ∈ tables_1, d.before aw Z = true) (ws : List Jvm.Cond) (a0 : Addr) (a1 : Addr) (b0 d0 : Int32) (h0 : Heap) (n0 : Nat) (Z0 : n0 ≤ h0.size) (A_a0 : Ary Z h0 a0 .byte [(.int b0)]) (A_a1 : Ary Z h0 a1 .byte [(.int d0)]) :
    MetFree l (⟨"java/lang/StringLatin1", "equals", "([B[B)Z"⟩ : MethodName) (head1 (Jvm.Cond.code (⟨"java/lang/StringLatin1", "equals", "([B[B)Z"⟩ : MethodName) jdk_43_method_13_code 3 (some .boolean) :: ws) ({ frames := 0, cells := 0, slots := 0, locals := 0 } : Room)) (fun a U => a = #[(.ref a0), (.ref a1)] ∧ Z.Warmed39 U.vm ∧ U.heap = h0) (fun _ _ _ _ _ => True) (fun _ U o U' => ∃ v L, o = .returned v ∧ Q12n11 Z a0 a1 b0 d0 h0 n0 v U'.heap L ∧ FrameEnd U o U' L ({ frames := 0, cells := 0, slots := 0, locals := 0 } : Room).cells ({ frames := 0, cells := 0, slots := 0, locals := 0 } : Room).slots) := by
  refine MetFree.of_bodySF (plainFor_of_name pn_12) hisR ?_
  intro p e s m args below meth c s₁ Bd hml0 hP hK
  obtain ⟨rfl, hZ, hh⟩ := hP
  have hx := Bd.exec
  have hby := Bd.bytes
  have hml : c.maxLocals = 3 := hml0
  have hown : s.vm.findClass "java/lang/StringLatin1" = some m.cls := findClass_of_methodNamed Bd.named
  have hnm := (name_of_methodNamed Bd.named Bd.method).1
  have hlk : meth.locks = false := BodyLoose.notSynchronized Bd
  have X0 : Stand p l e ({ frames := 0, cells := 0, slots := 0, locals := 0 } : Room) s m #[(.ref a0), (.ref a1)] below meth c s₁ [] 0 0 := Stand.of_body Bd
  have e0 : s₁.heap = h0 := by rw [← hh, Bd.state]; rfl
  have N0 := Fr.nil n0
  show Run p e s below (Q12n11 Z a0 a1 b0 d0 h0 n0) ({ frames := 0, cells := 0, slots := 0, locals := 0 } : Room).cells ({ frames := 0, cells := 0, slots := 0, locals := 0 } : Room).slots s₁ (entryFrame m #[(.ref a0), (.ref a1)] 3)
  rw [ef_12n11]
  show Run _ _ _ _ _ _ _ s₁ (mkF m 0 #[.val (.ref a0), .val (.ref a1), .unset] [])
  refine go (T' := s₁) (f' := (mkF m 1 #[.val (.ref a0), .val (.ref a1), .unset] [(.ref a0)])) (by intro t k; exact XS.aloadN X0.here hx rfl (hb hby d12_0) rfl rfl k) ?_
  refine go (T' := s₁) (f' := (mkF m 2 #[.val (.ref a0), .val (.ref a1), .unset] [(.int (1 : Int32))])) (by intro t k; exact alen X0 hx hZ e0 A_a0 (z := (1 : Int32)) rfl (g := (mkF m 1 #[.val (.ref a0), .val (.ref a1), .unset] [(.ref a0)])) rfl rfl (hb hby d12_1) _ k) ?_
  refine go (T' := s₁) (f' := (mkF m 3 #[.val (.ref a0), .val (.ref a1), .unset] [(.ref a1), (.int (1 : Int32))])) (by intro t k; exact XS.aloadN X0.here hx rfl (hb hby d12_2) rfl rfl k) ?_
  refine go (T' := s₁) (f' := (mkF m 4 #[.val (.ref a0), .val (.ref a1), .unset] [(.int (1 : Int32)), (.int (1 : Int32))])) (by intro t k; exact alen X0 hx hZ e0 A_a1 (z := (1 : Int32)) rfl (g := (mkF m 3 #[.val (.ref a0), .val (.ref a1), .unset] [(.ref a1), (.int (1 : Int32))])) rfl rfl (hb hby d12_3) _ k) ?_
  refine go (T' := s₁) (f' := (mkF m 7 #[.val (.ref a0), .val (.ref a1), .unset] [])) (by intro t k; exact XS.icmpNo X0.here hx rfl (hb hby d12_4) rfl (teq (rfl : (1 : Int32) = (1 : Int32))).2 k) ?_
  refine go (T' := s₁) (f' := (mkF m 8 #[.val (.ref a0), .val (.ref a1), .unset] [(.int (0 : Int32))])) (by intro t k; exact XS.iconst X0.here hx rfl (hb hby d12_7) k) ?_
  refine go (T' := s₁) (f' := (mkF m 9 #[.val (.ref a0), .val (.ref a1), .val (.int (0 : Int32))] [])) (by intro t k; exact XS.istoreN X0.here hx rfl (hb hby d12_8) rfl (l' := #[.val (.ref a0), .val (.ref a1), .val (.int (0 : Int32))]) rfl k) ?_
  refine go (T' := s₁) (f' := (mkF m 10 #[.val (.ref a0), .val (.ref a1), .val (.int (0 : Int32))] [(.int (0 : Int32))])) (by intro t k; exact XS.iloadN X0.here hx rfl (hb hby d12_9) rfl k) ?_
  refine go (T' := s₁) (f' := (mkF m 11 #[.val (.ref a0), .val (.ref a1), .val (.int (0 : Int32))] [(.ref a0), (.int (0 : Int32))])) (by intro t k; exact XS.aloadN X0.here hx rfl (hb hby d12_10) rfl rfl k) ?_
  refine go (T' := s₁) (f' := (mkF m 12 #[.val (.ref a0), .val (.ref a1), .val (.int (0 : Int32))] [(.int (1 : Int32)), (.int (0 : Int32))])) (by intro t k; exact alen X0 hx hZ e0 A_a0 (z := (1 : Int32)) rfl (g := (mkF m 11 #[.val (.ref a0), .val (.ref a1), .val (.int (0 : Int32))] [(.ref a0), (.int (0 : Int32))])) rfl rfl (hb hby d12_11) _ k) ?_
  refine go (T' := s₁) (f' := (mkF m 15 #[.val (.ref a0), .val (.ref a1), .val (.int (0 : Int32))] [])) (by intro t k; exact XS.icmpNo X0.here hx rfl (hb hby d12_12) rfl (tlt (by decide : (0 : Int32) < (1 : Int32))).2.1 k) ?_
  refine go (T' := s₁) (f' := (mkF m 16 #[.val (.ref a0), .val (.ref a1), .val (.int (0 : Int32))] [(.ref a0)])) (by intro t k; exact XS.aloadN X0.here hx rfl (hb hby d12_15) rfl rfl k) ?_
  refine go (T' := s₁) (f' := (mkF m 17 #[.val (.ref a0), .val (.ref a1), .val (.int (0 : Int32))] [(.int (0 : Int32)), (.ref a0)])) (by intro t k; exact XS.iloadN X0.here hx rfl (hb hby d12_16) rfl k) ?_
  refine go (T' := s₁) (f' := (mkF m 18 #[.val (.ref a0), .val (.ref a1), .val (.int (0 : Int32))] [(.int b0)])) (by intro t k; exact ldB X0 hx hZ e0 A_a0 (j := (0 : Int32)) (v := (.int b0)) (by decide) rfl (g := (mkF m 17 #[.val (.ref a0), .val (.ref a1), .val (.int (0 : Int32))] [(.int (0 : Int32)), (.ref a0)])) rfl rfl (hb hby d12_17) _ k) ?_
  refine go (T' := s₁) (f' := (mkF m 19 #[.val (.ref a0), .val (.ref a1), .val (.int (0 : Int32))] [(.ref a1), (.int b0)])) (by intro t k; exact XS.aloadN X0.here hx rfl (hb hby d12_18) rfl rfl k) ?_
  refine go (T' := s₁) (f' := (mkF m 20 #[.val (.ref a0), .val (.ref a1), .val (.int (0 : Int32))] [(.int (0 : Int32)), (.ref a1), (.int b0)])) (by intro t k; exact XS.iloadN X0.here hx rfl (hb hby d12_19) rfl k) ?_
  refine go (T' := s₁) (f' := (mkF m 21 #[.val (.ref a0), .val (.ref a1), .val (.int (0 : Int32))] [(.int d0), (.int b0)])) (by intro t k; exact ldB X0 hx hZ e0 A_a1 (j := (0 : Int32)) (v := (.int d0)) (by decide) rfl (g := (mkF m 20 #[.val (.ref a0), .val (.ref a1), .val (.int (0 : Int32))] [(.int (0 : Int32)), (.ref a1), (.int b0)])) rfl rfl (hb hby d12_20) _ k) ?_
  by_cases hc21 : b0 = d0
  · refine go (T' := s₁) (f' := (mkF m 26 #[.val (.ref a0), .val (.ref a1), .val (.int (0 : Int32))] [])) (by intro t k; exact XS.icmpYes X0.here hx rfl (pc0 := 21) (pc' := 26) rfl (hb hby d12_21) rfl (teq hc21).1 (by decide) (by decide) k) ?_
    refine go (T' := s₁) (f' := (mkF m 29 #[.val (.ref a0), .val (.ref a1), .val (.int (1 : Int32))] [])) (by intro t k; exact XS.iinc X0.here hx rfl (hb hby d12_26) rfl (l' := #[.val (.ref a0), .val (.ref a1), .val (.int (1 : Int32))]) rfl k) ?_
    refine go (T' := s₁) (f' := (mkF m 9 #[.val (.ref a0), .val (.ref a1), .val (.int (1 : Int32))] [])) (by intro t k; exact XS.goto X0.here hx rfl (pc0 := 29) (pc' := 9) rfl (hb hby d12_29) (by decide) (by decide) k) ?_
    refine go (T' := s₁) (f' := (mkF m 10 #[.val (.ref a0), .val (.ref a1), .val (.int (1 : Int32))] [(.int (1 : Int32))])) (by intro t k; exact XS.iloadN X0.here hx rfl (hb hby d12_9) rfl k) ?_
    refine go (T' := s₁) (f' := (mkF m 11 #[.val (.ref a0), .val (.ref a1), .val (.int (1 : Int32))] [(.ref a0), (.int (1 : Int32))])) (by intro t k; exact XS.aloadN X0.here hx rfl (hb hby d12_10) rfl rfl k) ?_
    refine go (T' := s₁) (f' := (mkF m 12 #[.val (.ref a0), .val (.ref a1), .val (.int (1 : Int32))] [(.int (1 : Int32)), (.int (1 : Int32))])) (by intro t k; exact alen X0 hx hZ e0 A_a0 (z := (1 : Int32)) rfl (g := (mkF m 11 #[.val (.ref a0), .val (.ref a1), .val (.int (1 : Int32))] [(.ref a0), (.int (1 : Int32))])) rfl rfl (hb hby d12_11) _ k) ?_
    refine go (T' := s₁) (f' := (mkF m 32 #[.val (.ref a0), .val (.ref a1), .val (.int (1 : Int32))] [])) (by intro t k; exact XS.icmpYes X0.here hx rfl (pc0 := 12) (pc' := 32) rfl (hb hby d12_12) rfl (flt (by decide : ¬ ((1 : Int32) < (1 : Int32)))).2.1 (by decide) (by decide) k) ?_
    refine go (T' := s₁) (f' := (mkF m 33 #[.val (.ref a0), .val (.ref a1), .val (.int (1 : Int32))] [(.int (1 : Int32))])) (by intro t k; exact XS.iconst X0.here hx rfl (hb hby d12_32) k) ?_
    refine retZ X0 hx (t := .boolean) Bd.returns (by simp) (hb hby d12_33) hlk (by decide) (by decide) ?_
    show Q12n11 Z a0 a1 b0 d0 h0 n0 _ s₁.heap _
    rw [e0]
    have hv' : (nar .boolean (1 : Int32)) = (if b0 = d0 then (1 : Int32) else (0 : Int32)) := by
      first | rfl | ((repeat' split) <;> first | rfl | contradiction | (simp_all; done))
    have hv : (some (.int (nar .boolean (1 : Int32))) : Option Value) = some (.int (if b0 = d0 then (1 : Int32) else (0 : Int32))) := congrArg (fun z => (some (.int z) : Option Value)) hv'
    exact ⟨hv, N0, rfl⟩
  · refine go (T' := s₁) (f' := (mkF m 24 #[.val (.ref a0), .val (.ref a1), .val (.int (0 : Int32))] [])) (by intro t k; exact XS.icmpNo X0.here hx rfl (hb hby d12_21) rfl (feq hc21).1 k) ?_
    refine go (T' := s₁) (f' := (mkF m 25 #[.val (.ref a0), .val (.ref a1), .val (.int (0 : Int32))] [(.int (0 : Int32))])) (by intro t k; exact XS.iconst X0.here hx rfl (hb hby d12_24) k) ?_
    refine retZ X0 hx (t := .boolean) Bd.returns (by simp) (hb hby d12_25) hlk (by decide) (by decide) ?_
    show Q12n11 Z a0 a1 b0 d0 h0 n0 _ s₁.heap _
    rw [e0]
    have hv' : (nar .boolean (0 : Int32)) = (if b0 = d0 then (1 : Int32) else (0 : Int32)) := by
      first | rfl | ((repeat' split) <;> first | rfl | contradiction | (simp_all; done))
    have hv : (some (.int (nar .boolean (0 : Int32))) : Option Value) = some (.int (if b0 = d0 then (1 : Int32) else (0 : Int32))) := congrArg (fun z => (some (.int z) : Option Value)) hv'
    exact ⟨hv, N0, rfl⟩
theorem d12_34 : decode jdk_43_method_13_code 34 = .ok (.iconst 0, 1) := by decide +kernel
theorem d12_35 : decode jdk_43_method_13_code 35 = .ok (.ireturn, 1) := by decide +kernel
theorem ef_12n12 (m : MethodId) (x0 : Addr) (x1 : Addr) : entryFrame m #[(.ref x0), (.ref x1)] 3 = mkF m 0 #[.val (.ref x0), .val (.ref x1), .unset] [] := by first | (simp [entryFrame, mkF, argsToLocals, Value.category]; done) | rfl
def Q12n12 (Z : State) (a0 : Addr) (a1 : Addr) (b0 d0 d1 : Int32) (h0 : Heap) (n0 : Nat) (v : Option Value) (h : Heap) (L : List Loc) : Prop := v = some (.int (0 : Int32)) ∧ Fr n0 L ∧ h = h0
set_option maxRecDepth 65536 in
set_option maxHeartbeats 40000000 in
theorem rm12n12 (l : Launch) (Z : State) (aw : Array Value) (hw : ∀ d ∈ tables_1, d.before aw Z = true) (ws : List Jvm.Cond) (a0 : Addr) (a1 : Addr) (b0 d0 d1 : Int32) (h0 : Heap) (n0 : Nat) (Z0 : n0 ≤ h0.size) (A_a0 : Ary Z h0 a0 .byte [(.int b0)]) (A_a1 : Ary Z h0 a1 .byte [(.int d0), (.int d1)]) :
    MetFree l (⟨"java/lang/StringLatin1", "equals", "([B[B)Z"⟩ : MethodName) (head1 (Jvm.Cond.code (⟨"java/lang/StringLatin1", "equals", "([B[B)Z"⟩ : MethodName) jdk_43_method_13_code 3 (some .boolean) :: ws) ({ frames := 0, cells := 0, slots := 0, locals := 0 } : Room)) (fun a U => a = #[(.ref a0), (.ref a1)] ∧ Z.Warmed39 U.vm ∧ U.heap = h0) (fun _ _ _ _ _ => True) (fun _ U o U' => ∃ v L, o = .returned v ∧ Q12n12 Z a0 a1 b0 d0 d1 h0 n0 v U'.heap L ∧ FrameEnd U o U' L ({ frames := 0, cells := 0, slots := 0, locals := 0 } : Room).cells ({ frames := 0, cells := 0, slots := 0, locals := 0 } : Room).slots) := by
  refine MetFree.of_bodySF (plainFor_of_name pn_12) hisR ?_
  intro p e s m args below meth c s₁ Bd hml0 hP hK
  obtain ⟨rfl, hZ, hh⟩ := hP
  have hx := Bd.exec
  have hby := Bd.bytes
  have hml : c.maxLocals = 3 := hml0
  have hown : s.vm.findClass "java/lang/StringLatin1" = some m.cls := findClass_of_methodNamed Bd.named
  have hnm := (name_of_methodNamed Bd.named Bd.method).1
  have hlk : meth.locks = false := BodyLoose.notSynchronized Bd
  have X0 : Stand p l e ({ frames := 0, cells := 0, slots := 0, locals := 0 } : Room) s m #[(.ref a0), (.ref a1)] below meth c s₁ [] 0 0 := Stand.of_body Bd
  have e0 : s₁.heap = h0 := by rw [← hh, Bd.state]; rfl
  have N0 := Fr.nil n0
  show Run p e s below (Q12n12 Z a0 a1 b0 d0 d1 h0 n0) ({ frames := 0, cells := 0, slots := 0, locals := 0 } : Room).cells ({ frames := 0, cells := 0, slots := 0, locals := 0 } : Room).slots s₁ (entryFrame m #[(.ref a0), (.ref a1)] 3)
  rw [ef_12n12]
  show Run _ _ _ _ _ _ _ s₁ (mkF m 0 #[.val (.ref a0), .val (.ref a1), .unset] [])
  refine go (T' := s₁) (f' := (mkF m 1 #[.val (.ref a0), .val (.ref a1), .unset] [(.ref a0)])) (by intro t k; exact XS.aloadN X0.here hx rfl (hb hby d12_0) rfl rfl k) ?_
  refine go (T' := s₁) (f' := (mkF m 2 #[.val (.ref a0), .val (.ref a1), .unset] [(.int (1 : Int32))])) (by intro t k; exact alen X0 hx hZ e0 A_a0 (z := (1 : Int32)) rfl (g := (mkF m 1 #[.val (.ref a0), .val (.ref a1), .unset] [(.ref a0)])) rfl rfl (hb hby d12_1) _ k) ?_
  refine go (T' := s₁) (f' := (mkF m 3 #[.val (.ref a0), .val (.ref a1), .unset] [(.ref a1), (.int (1 : Int32))])) (by intro t k; exact XS.aloadN X0.here hx rfl (hb hby d12_2) rfl rfl k) ?_
  refine go (T' := s₁) (f' := (mkF m 4 #[.val (.ref a0), .val (.ref a1), .unset] [(.int (2 : Int32)), (.int (1 : Int32))])) (by intro t k; exact alen X0 hx hZ e0 A_a1 (z := (2 : Int32)) rfl (g := (mkF m 3 #[.val (.ref a0), .val (.ref a1), .unset] [(.ref a1), (.int (1 : Int32))])) rfl rfl (hb hby d12_3) _ k) ?_
  refine go (T' := s₁) (f' := (mkF m 34 #[.val (.ref a0), .val (.ref a1), .unset] [])) (by intro t k; exact XS.icmpYes X0.here hx rfl (pc0 := 4) (pc' := 34) rfl (hb hby d12_4) rfl (feq (by decide : ¬ ((1 : Int32) = (2 : Int32)))).2 (by decide) (by decide) k) ?_
  refine go (T' := s₁) (f' := (mkF m 35 #[.val (.ref a0), .val (.ref a1), .unset] [(.int (0 : Int32))])) (by intro t k; exact XS.iconst X0.here hx rfl (hb hby d12_34) k) ?_
  refine retZ X0 hx (t := .boolean) Bd.returns (by simp) (hb hby d12_35) hlk (by decide) (by decide) ?_
  show Q12n12 Z a0 a1 b0 d0 d1 h0 n0 _ s₁.heap _
  rw [e0]
  have hv' : (nar .boolean (0 : Int32)) = (0 : Int32) := by
    first | rfl | ((repeat' split) <;> first | rfl | contradiction | (simp_all; done))
  have hv : (some (.int (nar .boolean (0 : Int32))) : Option Value) = some (.int (0 : Int32)) := congrArg (fun z => (some (.int z) : Option Value)) hv'
  exact ⟨hv, N0, rfl⟩
theorem ef_12n21 (m : MethodId) (x0 : Addr) (x1 : Addr) : entryFrame m #[(.ref x0), (.ref x1)] 3 = mkF m 0 #[.val (.ref x0), .val (.ref x1), .unset] [] := by first | (simp [entryFrame, mkF, argsToLocals, Value.category]; done) | rfl
def Q12n21 (Z : State) (a0 : Addr) (a1 : Addr) (b0 b1 d0 : Int32) (h0 : Heap) (n0 : Nat) (v : Option Value) (h : Heap) (L : List Loc) : Prop := v = some (.int (0 : Int32)) ∧ Fr n0 L ∧ h = h0
set_option maxRecDepth 65536 in
set_option maxHeartbeats 40000000 in
theorem rm12n21 (l : Launch) (Z : State) (aw : Array Value) (hw : ∀ d ∈ tables_1, d.before aw Z = true) (ws : List Jvm.Cond) (a0 : Addr) (a1 : Addr) (b0 b1 d0 : Int32) (h0 : Heap) (n0 : Nat) (Z0 : n0 ≤ h0.size) (A_a0 : Ary Z h0 a0 .byte [(.int b0), (.int b1)]) (A_a1 : Ary Z h0 a1 .byte [(.int d0)]) :
    MetFree l (⟨"java/lang/StringLatin1", "equals", "([B[B)Z"⟩ : MethodName) (head1 (Jvm.Cond.code (⟨"java/lang/StringLatin1", "equals", "([B[B)Z"⟩ : MethodName) jdk_43_method_13_code 3 (some .boolean) :: ws) ({ frames := 0, cells := 0, slots := 0, locals := 0 } : Room)) (fun a U => a = #[(.ref a0), (.ref a1)] ∧ Z.Warmed39 U.vm ∧ U.heap = h0) (fun _ _ _ _ _ => True) (fun _ U o U' => ∃ v L, o = .returned v ∧ Q12n21 Z a0 a1 b0 b1 d0 h0 n0 v U'.heap L ∧ FrameEnd U o U' L ({ frames := 0, cells := 0, slots := 0, locals := 0 } : Room).cells ({ frames := 0, cells := 0, slots := 0, locals := 0 } : Room).slots) := by
  refine MetFree.of_bodySF (plainFor_of_name pn_12) hisR ?_
  intro p e s m args below meth c s₁ Bd hml0 hP hK
  obtain ⟨rfl, hZ, hh⟩ := hP
  have hx := Bd.exec
  have hby := Bd.bytes
  have hml : c.maxLocals = 3 := hml0
  have hown : s.vm.findClass "java/lang/StringLatin1" = some m.cls := findClass_of_methodNamed Bd.named
  have hnm := (name_of_methodNamed Bd.named Bd.method).1
  have hlk : meth.locks = false := BodyLoose.notSynchronized Bd
  have X0 : Stand p l e ({ frames := 0, cells := 0, slots := 0, locals := 0 } : Room) s m #[(.ref a0), (.ref a1)] below meth c s₁ [] 0 0 := Stand.of_body Bd
  have e0 : s₁.heap = h0 := by rw [← hh, Bd.state]; rfl
  have N0 := Fr.nil n0
  show Run p e s below (Q12n21 Z a0 a1 b0 b1 d0 h0 n0) ({ frames := 0, cells := 0, slots := 0, locals := 0 } : Room).cells ({ frames := 0, cells := 0, slots := 0, locals := 0 } : Room).slots s₁ (entryFrame m #[(.ref a0), (.ref a1)] 3)
  rw [ef_12n21]
  show Run _ _ _ _ _ _ _ s₁ (mkF m 0 #[.val (.ref a0), .val (.ref a1), .unset] [])
  refine go (T' := s₁) (f' := (mkF m 1 #[.val (.ref a0), .val (.ref a1), .unset] [(.ref a0)])) (by intro t k; exact XS.aloadN X0.here hx rfl (hb hby d12_0) rfl rfl k) ?_
  refine go (T' := s₁) (f' := (mkF m 2 #[.val (.ref a0), .val (.ref a1), .unset] [(.int (2 : Int32))])) (by intro t k; exact alen X0 hx hZ e0 A_a0 (z := (2 : Int32)) rfl (g := (mkF m 1 #[.val (.ref a0), .val (.ref a1), .unset] [(.ref a0)])) rfl rfl (hb hby d12_1) _ k) ?_
  refine go (T' := s₁) (f' := (mkF m 3 #[.val (.ref a0), .val (.ref a1), .unset] [(.ref a1), (.int (2 : Int32))])) (by intro t k; exact XS.aloadN X0.here hx rfl (hb hby d12_2) rfl rfl k) ?_
  refine go (T' := s₁) (f' := (mkF m 4 #[.val (.ref a0), .val (.ref a1), .unset] [(.int (1 : Int32)), (.int (2 : Int32))])) (by intro t k; exact alen X0 hx hZ e0 A_a1 (z := (1 : Int32)) rfl (g := (mkF m 3 #[.val (.ref a0), .val (.ref a1), .unset] [(.ref a1), (.int (2 : Int32))])) rfl rfl (hb hby d12_3) _ k) ?_
  refine go (T' := s₁) (f' := (mkF m 34 #[.val (.ref a0), .val (.ref a1), .unset] [])) (by intro t k; exact XS.icmpYes X0.here hx rfl (pc0 := 4) (pc' := 34) rfl (hb hby d12_4) rfl (feq (by decide : ¬ ((2 : Int32) = (1 : Int32)))).2 (by decide) (by decide) k) ?_
  refine go (T' := s₁) (f' := (mkF m 35 #[.val (.ref a0), .val (.ref a1), .unset] [(.int (0 : Int32))])) (by intro t k; exact XS.iconst X0.here hx rfl (hb hby d12_34) k) ?_
  refine retZ X0 hx (t := .boolean) Bd.returns (by simp) (hb hby d12_35) hlk (by decide) (by decide) ?_
  show Q12n21 Z a0 a1 b0 b1 d0 h0 n0 _ s₁.heap _
  rw [e0]
  have hv' : (nar .boolean (0 : Int32)) = (0 : Int32) := by
    first | rfl | ((repeat' split) <;> first | rfl | contradiction | (simp_all; done))
  have hv : (some (.int (nar .boolean (0 : Int32))) : Option Value) = some (.int (0 : Int32)) := congrArg (fun z => (some (.int z) : Option Value)) hv'
  exact ⟨hv, N0, rfl⟩
theorem ef_12n22 (m : MethodId) (x0 : Addr) (x1 : Addr) : entryFrame m #[(.ref x0), (.ref x1)] 3 = mkF m 0 #[.val (.ref x0), .val (.ref x1), .unset] [] := by first | (simp [entryFrame, mkF, argsToLocals, Value.category]; done) | rfl
def Q12n22 (Z : State) (a0 : Addr) (a1 : Addr) (b0 b1 d0 d1 : Int32) (h0 : Heap) (n0 : Nat) (v : Option Value) (h : Heap) (L : List Loc) : Prop := v = some (.int (if b0 = d0 then (if b1 = d1 then (1 : Int32) else (0 : Int32)) else (0 : Int32))) ∧ Fr n0 L ∧ h = h0
set_option maxRecDepth 65536 in
set_option maxHeartbeats 40000000 in
theorem rm12n22 (l : Launch) (Z : State) (aw : Array Value) (hw : ∀ d ∈ tables_1, d.before aw Z = true) (ws : List Jvm.Cond) (a0 : Addr) (a1 : Addr) (b0 b1 d0 d1 : Int32) (h0 : Heap) (n0 : Nat) (Z0 : n0 ≤ h0.size) (A_a0 : Ary Z h0 a0 .byte [(.int b0), (.int b1)]) (A_a1 : Ary Z h0 a1 .byte [(.int d0), (.int d1)]) :
    MetFree l (⟨"java/lang/StringLatin1", "equals", "([B[B)Z"⟩ : MethodName) (head1 (Jvm.Cond.code (⟨"java/lang/StringLatin1", "equals", "([B[B)Z"⟩ : MethodName) jdk_43_method_13_code 3 (some .boolean) :: ws) ({ frames := 0, cells := 0, slots := 0, locals := 0 } : Room)) (fun a U => a = #[(.ref a0), (.ref a1)] ∧ Z.Warmed39 U.vm ∧ U.heap = h0) (fun _ _ _ _ _ => True) (fun _ U o U' => ∃ v L, o = .returned v ∧ Q12n22 Z a0 a1 b0 b1 d0 d1 h0 n0 v U'.heap L ∧ FrameEnd U o U' L ({ frames := 0, cells := 0, slots := 0, locals := 0 } : Room).cells ({ frames := 0, cells := 0, slots := 0, locals := 0 } : Room).slots) := by
  refine MetFree.of_bodySF (plainFor_of_name pn_12) hisR ?_
  intro p e s m args below meth c s₁ Bd hml0 hP hK
  obtain ⟨rfl, hZ, hh⟩ := hP
  have hx := Bd.exec
  have hby := Bd.bytes
  have hml : c.maxLocals = 3 := hml0
  have hown : s.vm.findClass "java/lang/StringLatin1" = some m.cls := findClass_of_methodNamed Bd.named
  have hnm := (name_of_methodNamed Bd.named Bd.method).1
  have hlk : meth.locks = false := BodyLoose.notSynchronized Bd
  have X0 : Stand p l e ({ frames := 0, cells := 0, slots := 0, locals := 0 } : Room) s m #[(.ref a0), (.ref a1)] below meth c s₁ [] 0 0 := Stand.of_body Bd
  have e0 : s₁.heap = h0 := by rw [← hh, Bd.state]; rfl
  have N0 := Fr.nil n0
  show Run p e s below (Q12n22 Z a0 a1 b0 b1 d0 d1 h0 n0) ({ frames := 0, cells := 0, slots := 0, locals := 0 } : Room).cells ({ frames := 0, cells := 0, slots := 0, locals := 0 } : Room).slots s₁ (entryFrame m #[(.ref a0), (.ref a1)] 3)
  rw [ef_12n22]
  show Run _ _ _ _ _ _ _ s₁ (mkF m 0 #[.val (.ref a0), .val (.ref a1), .unset] [])
  refine go (T' := s₁) (f' := (mkF m 1 #[.val (.ref a0), .val (.ref a1), .unset] [(.ref a0)])) (by intro t k; exact XS.aloadN X0.here hx rfl (hb hby d12_0) rfl rfl k) ?_
  refine go (T' := s₁) (f' := (mkF m 2 #[.val (.ref a0), .val (.ref a1), .unset] [(.int (2 : Int32))])) (by intro t k; exact alen X0 hx hZ e0 A_a0 (z := (2 : Int32)) rfl (g := (mkF m 1 #[.val (.ref a0), .val (.ref a1), .unset] [(.ref a0)])) rfl rfl (hb hby d12_1) _ k) ?_
  refine go (T' := s₁) (f' := (mkF m 3 #[.val (.ref a0), .val (.ref a1), .unset] [(.ref a1), (.int (2 : Int32))])) (by intro t k; exact XS.aloadN X0.here hx rfl (hb hby d12_2) rfl rfl k) ?_
  refine go (T' := s₁) (f' := (mkF m 4 #[.val (.ref a0), .val (.ref a1), .unset] [(.int (2 : Int32)), (.int (2 : Int32))])) (by intro t k; exact alen X0 hx hZ e0 A_a1 (z := (2 : Int32)) rfl (g := (mkF m 3 #[.val (.ref a0), .val (.ref a1), .unset] [(.ref a1), (.int (2 : Int32))])) rfl rfl (hb hby d12_3) _ k) ?_
  refine go (T' := s₁) (f' := (mkF m 7 #[.val (.ref a0), .val (.ref a1), .unset] [])) (by intro t k; exact XS.icmpNo X0.here hx rfl (hb hby d12_4) rfl (teq (rfl : (2 : Int32) = (2 : Int32))).2 k) ?_
  refine go (T' := s₁) (f' := (mkF m 8 #[.val (.ref a0), .val (.ref a1), .unset] [(.int (0 : Int32))])) (by intro t k; exact XS.iconst X0.here hx rfl (hb hby d12_7) k) ?_
  refine go (T' := s₁) (f' := (mkF m 9 #[.val (.ref a0), .val (.ref a1), .val (.int (0 : Int32))] [])) (by intro t k; exact XS.istoreN X0.here hx rfl (hb hby d12_8) rfl (l' := #[.val (.ref a0), .val (.ref a1), .val (.int (0 : Int32))]) rfl k) ?_
  refine go (T' := s₁) (f' := (mkF m 10 #[.val (.ref a0), .val (.ref a1), .val (.int (0 : Int32))] [(.int (0 : Int32))])) (by intro t k; exact XS.iloadN X0.here hx rfl (hb hby d12_9) rfl k) ?_
  refine go (T' := s₁) (f' := (mkF m 11 #[.val (.ref a0), .val (.ref a1), .val (.int (0 : Int32))] [(.ref a0), (.int (0 : Int32))])) (by intro t k; exact XS.aloadN X0.here hx rfl (hb hby d12_10) rfl rfl k) ?_
  refine go (T' := s₁) (f' := (mkF m 12 #[.val (.ref a0), .val (.ref a1), .val (.int (0 : Int32))] [(.int (2 : Int32)), (.int (0 : Int32))])) (by intro t k; exact alen X0 hx hZ e0 A_a0 (z := (2 : Int32)) rfl (g := (mkF m 11 #[.val (.ref a0), .val (.ref a1), .val (.int (0 : Int32))] [(.ref a0), (.int (0 : Int32))])) rfl rfl (hb hby d12_11) _ k) ?_
  refine go (T' := s₁) (f' := (mkF m 15 #[.val (.ref a0), .val (.ref a1), .val (.int (0 : Int32))] [])) (by intro t k; exact XS.icmpNo X0.here hx rfl (hb hby d12_12) rfl (tlt (by decide : (0 : Int32) < (2 : Int32))).2.1 k) ?_
  refine go (T' := s₁) (f' := (mkF m 16 #[.val (.ref a0), .val (.ref a1), .val (.int (0 : Int32))] [(.ref a0)])) (by intro t k; exact XS.aloadN X0.here hx rfl (hb hby d12_15) rfl rfl k) ?_
  refine go (T' := s₁) (f' := (mkF m 17 #[.val (.ref a0), .val (.ref a1), .val (.int (0 : Int32))] [(.int (0 : Int32)), (.ref a0)])) (by intro t k; exact XS.iloadN X0.here hx rfl (hb hby d12_16) rfl k) ?_
  refine go (T' := s₁) (f' := (mkF m 18 #[.val (.ref a0), .val (.ref a1), .val (.int (0 : Int32))] [(.int b0)])) (by intro t k; exact ldB X0 hx hZ e0 A_a0 (j := (0 : Int32)) (v := (.int b0)) (by decide) rfl (g := (mkF m 17 #[.val (.ref a0), .val (.ref a1), .val (.int (0 : Int32))] [(.int (0 : Int32)), (.ref a0)])) rfl rfl (hb hby d12_17) _ k) ?_
  refine go (T' := s₁) (f' := (mkF m 19 #[.val (.ref a0), .val (.ref a1), .val (.int (0 : Int32))] [(.ref a1), (.int b0)])) (by intro t k; exact XS.aloadN X0.here hx rfl (hb hby d12_18) rfl rfl k) ?_
  refine go (T' := s₁) (f' := (mkF m 20 #[.val (.ref a0), .val (.ref a1), .val (.int (0 : Int32))] [(.int (0 : Int32)), (.ref a1), (.int b0)])) (by intro t k; exact XS.iloadN X0.here hx rfl (hb hby d12_19) rfl k) ?_
  refine go (T' := s₁) (f' := (mkF m 21 #[.val (.ref a0), .val (.ref a1), .val (.int (0 : Int32))] [(.int d0), (.int b0)])) (by intro t k; exact ldB X0 hx hZ e0 A_a1 (j := (0 : Int32)) (v := (.int d0)) (by decide) rfl (g := (mkF m 20 #[.val (.ref a0), .val (.ref a1), .val (.int (0 : Int32))] [(.int (0 : Int32)), (.ref a1), (.int b0)])) rfl rfl (hb hby d12_20) _ k) ?_
  by_cases hc21 : b0 = d0
  · refine go (T' := s₁) (f' := (mkF m 26 #[.val (.ref a0), .val (.ref a1), .val (.int (0 : Int32))] [])) (by intro t k; exact XS.icmpYes X0.here hx rfl (pc0 := 21) (pc' := 26) rfl (hb hby d12_21) rfl (teq hc21).1 (by decide) (by decide) k) ?_
    refine go (T' := s₁) (f' := (mkF m 29 #[.val (.ref a0), .val (.ref a1), .val (.int (1 : Int32))] [])) (by intro t k; exact XS.iinc X0.here hx rfl (hb hby d12_26) rfl (l' := #[.val (.ref a0), .val (.ref a1), .val (.int (1 : Int32))]) rfl k) ?_
    refine go (T' := s₁) (f' := (mkF m 9 #[.val (.ref a0), .val (.ref a1), .val (.int (1 : Int32))] [])) (by intro t k; exact XS.goto X0.here hx rfl (pc0 := 29) (pc' := 9) rfl (hb hby d12_29) (by decide) (by decide) k) ?_
    refine go (T' := s₁) (f' := (mkF m 10 #[.val (.ref a0), .val (.ref a1), .val (.int (1 : Int32))] [(.int (1 : Int32))])) (by intro t k; exact XS.iloadN X0.here hx rfl (hb hby d12_9) rfl k) ?_
    refine go (T' := s₁) (f' := (mkF m 11 #[.val (.ref a0), .val (.ref a1), .val (.int (1 : Int32))] [(.ref a0), (.int (1 : Int32))])) (by intro t k; exact XS.aloadN X0.here hx rfl (hb hby d12_10) rfl rfl k) ?_
    refine go (T' := s₁) (f' := (mkF m 12 #[.val (.ref a0), .val (.ref a1), .val (.int (1 : Int32))] [(.int (2 : Int32)), (.int (1 : Int32))])) (by intro t k; exact alen X0 hx hZ e0 A_a0 (z := (2 : Int32)) rfl (g := (mkF m 11 #[.val (.ref a0), .val (.ref a1), .val (.int (1 : Int32))] [(.ref a0), (.int (1 : Int32))])) rfl rfl (hb hby d12_11) _ k) ?_
    refine go (T' := s₁) (f' := (mkF m 15 #[.val (.ref a0), .val (.ref a1), .val (.int (1 : Int32))] [])) (by intro t k; exact XS.icmpNo X0.here hx rfl (hb hby d12_12) rfl (tlt (by decide : (1 : Int32) < (2 : Int32))).2.1 k) ?_
    refine go (T' := s₁) (f' := (mkF m 16 #[.val (.ref a0), .val (.ref a1), .val (.int (1 : Int32))] [(.ref a0)])) (by intro t k; exact XS.aloadN X0.here hx rfl (hb hby d12_15) rfl rfl k) ?_
    refine go (T' := s₁) (f' := (mkF m 17 #[.val (.ref a0), .val (.ref a1), .val (.int (1 : Int32))] [(.int (1 : Int32)), (.ref a0)])) (by intro t k; exact XS.iloadN X0.here hx rfl (hb hby d12_16) rfl k) ?_
    refine go (T' := s₁) (f' := (mkF m 18 #[.val (.ref a0), .val (.ref a1), .val (.int (1 : Int32))] [(.int b1)])) (by intro t k; exact ldB X0 hx hZ e0 A_a0 (j := (1 : Int32)) (v := (.int b1)) (by decide) rfl (g := (mkF m 17 #[.val (.ref a0), .val (.ref a1), .val (.int (1 : Int32))] [(.int (1 : Int32)), (.ref a0)])) rfl rfl (hb hby d12_17) _ k) ?_
    refine go (T' := s₁) (f' := (mkF m 19 #[.val (.ref a0), .val (.ref a1), .val (.int (1 : Int32))] [(.ref a1), (.int b1)])) (by intro t k; exact XS.aloadN X0.here hx rfl (hb hby d12_18) rfl rfl k) ?_
    refine go (T' := s₁) (f' := (mkF m 20 #[.val (.ref a0), .val (.ref a1), .val (.int (1 : Int32))] [(.int (1 : Int32)), (.ref a1), (.int b1)])) (by intro t k; exact XS.iloadN X0.here hx rfl (hb hby d12_19) rfl k) ?_
    refine go (T' := s₁) (f' := (mkF m 21 #[.val (.ref a0), .val (.ref a1), .val (.int (1 : Int32))] [(.int d1), (.int b1)])) (by intro t k; exact ldB X0 hx hZ e0 A_a1 (j := (1 : Int32)) (v := (.int d1)) (by decide) rfl (g := (mkF m 20 #[.val (.ref a0), .val (.ref a1), .val (.int (1 : Int32))] [(.int (1 : Int32)), (.ref a1), (.int b1)])) rfl rfl (hb hby d12_20) _ k) ?_
    by_cases hc21 : b1 = d1
    · refine go (T' := s₁) (f' := (mkF m 26 #[.val (.ref a0), .val (.ref a1), .val (.int (1 : Int32))] [])) (by intro t k; exact XS.icmpYes X0.here hx rfl (pc0 := 21) (pc' := 26) rfl (hb hby d12_21) rfl (teq hc21).1 (by decide) (by decide) k) ?_
      refine go (T' := s₁) (f' := (mkF m 29 #[.val (.ref a0), .val (.ref a1), .val (.int (2 : Int32))] [])) (by intro t k; exact XS.iinc X0.here hx rfl (hb hby d12_26) rfl (l' := #[.val (.ref a0), .val (.ref a1), .val (.int (2 : Int32))]) rfl k) ?_
      refine go (T' := s₁) (f' := (mkF m 9 #[.val (.ref a0), .val (.ref a1), .val (.int (2 : Int32))] [])) (by intro t k; exact XS.goto X0.here hx rfl (pc0 := 29) (pc' := 9) rfl (hb hby d12_29) (by decide) (by decide) k) ?_
      refine go (T' := s₁) (f' := (mkF m 10 #[.val (.ref a0), .val (.ref a1), .val (.int (2 : Int32))] [(.int (2 : Int32))])) (by intro t k; exact XS.iloadN X0.here hx rfl (hb hby d12_9) rfl k) ?_
      refine go (T' := s₁) (f' := (mkF m 11 #[.val (.ref a0), .val (.ref a1), .val (.int (2 : Int32))] [(.ref a0), (.int (2 : Int32))])) (by intro t k; exact XS.aloadN X0.here hx rfl (hb hby d12_10) rfl rfl k) ?_
      refine go (T' := s₁) (f' := (mkF m 12 #[.val (.ref a0), .val (.ref a1), .val (.int (2 : Int32))] [(.int (2 : Int32)), (.int (2 : Int32))])) (by intro t k; exact alen X0 hx hZ e0 A_a0 (z := (2 : Int32)) rfl (g := (mkF m 11 #[.val (.ref a0), .val (.ref a1), .val (.int (2 : Int32))] [(.ref a0), (.int (2 : Int32))])) rfl rfl (hb hby d12_11) _ k) ?_
      refine go (T' := s₁) (f' := (mkF m 32 #[.val (.ref a0), .val (.ref a1), .val (.int (2 : Int32))] [])) (by intro t k; exact XS.icmpYes X0.here hx rfl (pc0 := 12) (pc' := 32) rfl (hb hby d12_12) rfl (flt (by decide : ¬ ((2 : Int32) < (2 : Int32)))).2.1 (by decide) (by decide) k) ?_
      refine go (T' := s₁) (f' := (mkF m 33 #[.val (.ref a0), .val (.ref a1), .val (.int (2 : Int32))] [(.int (1 : Int32))])) (by intro t k; exact XS.iconst X0.here hx rfl (hb hby d12_32) k) ?_
      refine retZ X0 hx (t := .boolean) Bd.returns (by simp) (hb hby d12_33) hlk (by decide) (by decide) ?_
      show Q12n22 Z a0 a1 b0 b1 d0 d1 h0 n0 _ s₁.heap _
      rw [e0]
      have hv' : (nar .boolean (1 : Int32)) = (if b0 = d0 then (if b1 = d1 then (1 : Int32) else (0 : Int32)) else (0 : Int32)) := by
        first | rfl | ((repeat' split) <;> first | rfl | contradiction | (simp_all; done))
      have hv : (some (.int (nar .boolean (1 : Int32))) : Option Value) = some (.int (if b0 = d0 then (if b1 = d1 then (1 : Int32) else (0 : Int32)) else (0 : Int32))) := congrArg (fun z => (some (.int z) : Option Value)) hv'
      exact ⟨hv, N0, rfl⟩
    · refine go (T' := s₁) (f' := (mkF m 24 #[.val (.ref a0), .val (.ref a1), .val (.int (1 : Int32))] [])) (by intro t k; exact XS.icmpNo X0.here hx rfl (hb hby d12_21) rfl (feq hc21).1 k) ?_
      refine go (T' := s₁) (f' := (mkF m 25 #[.val (.ref a0), .val (.ref a1), .val (.int (1 : Int32))] [(.int (0 : Int32))])) (by intro t k; exact XS.iconst X0.here hx rfl (hb hby d12_24) k) ?_
      refine retZ X0 hx (t := .boolean) Bd.returns (by simp) (hb hby d12_25) hlk (by decide) (by decide) ?_
      show Q12n22 Z a0 a1 b0 b1 d0 d1 h0 n0 _ s₁.heap _
      rw [e0]
      have hv' : (nar .boolean (0 : Int32)) = (if b0 = d0 then (if b1 = d1 then (1 : Int32) else (0 : Int32)) else (0 : Int32)) := by
        first | rfl | ((repeat' split) <;> first | rfl | contradiction | (simp_all; done))
      have hv : (some (.int (nar .boolean (0 : Int32))) : Option Value) = some (.int (if b0 = d0 then (if b1 = d1 then (1 : Int32) else (0 : Int32)) else (0 : Int32))) := congrArg (fun z => (some (.int z) : Option Value)) hv'
      exact ⟨hv, N0, rfl⟩
  · refine go (T' := s₁) (f' := (mkF m 24 #[.val (.ref a0), .val (.ref a1), .val (.int (0 : Int32))] [])) (by intro t k; exact XS.icmpNo X0.here hx rfl (hb hby d12_21) rfl (feq hc21).1 k) ?_
    refine go (T' := s₁) (f' := (mkF m 25 #[.val (.ref a0), .val (.ref a1), .val (.int (0 : Int32))] [(.int (0 : Int32))])) (by intro t k; exact XS.iconst X0.here hx rfl (hb hby d12_24) k) ?_
    refine retZ X0 hx (t := .boolean) Bd.returns (by simp) (hb hby d12_25) hlk (by decide) (by decide) ?_
    show Q12n22 Z a0 a1 b0 b1 d0 d1 h0 n0 _ s₁.heap _
    rw [e0]
    have hv' : (nar .boolean (0 : Int32)) = (if b0 = d0 then (if b1 = d1 then (1 : Int32) else (0 : Int32)) else (0 : Int32)) := by
      first | rfl | ((repeat' split) <;> first | rfl | contradiction | (simp_all; done))
    have hv : (some (.int (nar .boolean (0 : Int32))) : Option Value) = some (.int (if b0 = d0 then (if b1 = d1 then (1 : Int32) else (0 : Int32)) else (0 : Int32))) := congrArg (fun z => (some (.int z) : Option Value)) hv'
    exact ⟨hv, N0, rfl⟩
theorem d11_0 : decode jdk_42_method_66_code 0 = .ok (.aload_n 0, 1) := by decide +kernel
theorem d11_1 : decode jdk_42_method_66_code 1 = .ok (.aload_n 1, 1) := by decide +kernel
theorem d11_2 : decode jdk_42_method_66_code 2 = .ok (.if_acmp .ne 5, 3) := by decide +kernel
theorem d11_7 : decode jdk_42_method_66_code 7 = .ok (.aload_n 1, 1) := by decide +kernel
theorem d11_8 : decode jdk_42_method_66_code 8 = .ok (.instanceof 10, 3) := by decide +kernel
theorem d11_11 : decode jdk_42_method_66_code 11 = .ok (.ifCond .eq 43, 3) := by decide +kernel
theorem d11_14 : decode jdk_42_method_66_code 14 = .ok (.aload_n 1, 1) := by decide +kernel
theorem d11_15 : decode jdk_42_method_66_code 15 = .ok (.checkcast 10, 3) := by decide +kernel
theorem d11_18 : decode jdk_42_method_66_code 18 = .ok (.astore_n 2, 1) := by decide +kernel
theorem d11_19 : decode jdk_42_method_66_code 19 = .ok (.getstatic 38, 3) := by decide +kernel
theorem d11_22 : decode jdk_42_method_66_code 22 = .ok (.ifCond .eq 14, 3) := by decide +kernel
theorem d11_25 : decode jdk_42_method_66_code 25 = .ok (.aload_n 0, 1) := by decide +kernel
theorem d11_26 : decode jdk_42_method_66_code 26 = .ok (.getfield 15, 3) := by decide +kernel
theorem d11_29 : decode jdk_42_method_66_code 29 = .ok (.aload_n 2, 1) := by decide +kernel
theorem d11_30 : decode jdk_42_method_66_code 30 = .ok (.getfield 15, 3) := by decide +kernel
theorem d11_33 : decode jdk_42_method_66_code 33 = .ok (.if_icmp .ne 21, 3) := by decide +kernel
theorem d11_36 : decode jdk_42_method_66_code 36 = .ok (.aload_n 0, 1) := by decide +kernel
theorem d11_37 : decode jdk_42_method_66_code 37 = .ok (.getfield 9, 3) := by decide +kernel
theorem d11_40 : decode jdk_42_method_66_code 40 = .ok (.aload_n 2, 1) := by decide +kernel
theorem d11_41 : decode jdk_42_method_66_code 41 = .ok (.getfield 9, 3) := by decide +kernel
theorem d11_44 : decode jdk_42_method_66_code 44 = .ok (.invokestatic 541, 3) := by decide +kernel
theorem d11_47 : decode jdk_42_method_66_code 47 = .ok (.ifCond .eq 7, 3) := by decide +kernel
theorem d11_54 : decode jdk_42_method_66_code 54 = .ok (.iconst 0, 1) := by decide +kernel
theorem d11_50 : decode jdk_42_method_66_code 50 = .ok (.iconst 1, 1) := by decide +kernel
theorem d11_51 : decode jdk_42_method_66_code 51 = .ok (.goto 4, 3) := by decide +kernel
theorem d11_55 : decode jdk_42_method_66_code 55 = .ok (.ireturn, 1) := by decide +kernel
theorem pd_285bB5bB29Z : parseMethodDescriptor "([B[B)Z" = some ⟨[(.array .byte), (.array .byte)], some .boolean⟩ := by decide +kernel
theorem ef_11n11 (m : MethodId) (x0 : Addr) (x1 : Addr) : entryFrame m #[(.ref x0), (.ref x1)] 3 = mkF m 0 #[.val (.ref x0), .val (.ref x1), .unset] [] := by first | (simp [entryFrame, mkF, argsToLocals, Value.category]; done) | rfl
def Q11n11 (Z : State) (a0 : Addr) (a1 : Addr) (cs : Int32) (vv ww : Addr) (b0 d0 : Int32) (h0 : Heap) (n0 : Nat) (v : Option Value) (h : Heap) (L : List Loc) : Prop := v = some (.int (if b0 = d0 then (1 : Int32) else (0 : Int32))) ∧ Fr n0 L ∧ h = h0
set_option maxRecDepth 65536 in
set_option maxHeartbeats 40000000 in
theorem rm11n11 (l : Launch) (Z : State) (aw : Array Value) (hw : ∀ d ∈ tables_1, d.before aw Z = true) (ws : List Jvm.Cond) (a0 : Addr) (a1 : Addr) (cs : Int32) (vv ww : Addr) (b0 d0 : Int32) (h0 : Heap) (n0 : Nat) (Z0 : n0 ≤ h0.size) (O0 : Old Z n0 h0) (S_cs : Sta Z Z.heap "java/lang/String" "COMPACT_STRINGS" "Z" (.int cs)) (hcs : ¬ (cs = (0 : Int32))) (E_a0 : Exa Z h0 a0 "java/lang/String") (Fc_a0 : Fld Z h0 a0 "java/lang/String" "coder" "B" (.int (0 : Int32))) (Fv_a0 : Fld Z h0 a0 "java/lang/String" "value" "[B" (.ref vv)) (A_vv : Ary Z h0 vv .byte [(.int b0)]) (E_a1 : Exa Z h0 a1 "java/lang/String") (Fc_a1 : Fld Z h0 a1 "java/lang/String" "coder" "B" (.int (0 : Int32))) (Fv_a1 : Fld Z h0 a1 "java/lang/String" "value" "[B" (.ref ww)) (A_ww : Ary Z h0 ww .byte [(.int d0)]) (hne : ¬ (a0 = a1)) :
    MetFree l (⟨"java/lang/String", "equals", "(Ljava/lang/Object;)Z"⟩ : MethodName) (head1 (Jvm.Cond.code (⟨"java/lang/String", "equals", "(Ljava/lang/Object;)Z"⟩ : MethodName) jdk_42_method_66_code 3 (some .boolean) :: ws) ({ frames := 1, cells := 0, slots := 0, locals := 14 } : Room)) (fun a U => a = #[(.ref a0), (.ref a1)] ∧ Z.Warmed39 U.vm ∧ U.heap = h0) (fun _ _ _ _ _ => True) (fun _ U o U' => ∃ v L, o = .returned v ∧ Q11n11 Z a0 a1 cs vv ww b0 d0 h0 n0 v U'.heap L ∧ FrameEnd U o U' L ({ frames := 1, cells := 0, slots := 0, locals := 14 } : Room).cells ({ frames := 1, cells := 0, slots := 0, locals := 14 } : Room).slots) := by
  refine MetFree.of_bodySF (plainFor_of_name pn_3) hisR ?_
  intro p e s m args below meth c s₁ Bd hml0 hP hK
  obtain ⟨rfl, hZ, hh⟩ := hP
  have hx := Bd.exec
  have hby := Bd.bytes
  have hml : c.maxLocals = 3 := hml0
  have hown : s.vm.findClass "java/lang/String" = some m.cls := findClass_of_methodNamed Bd.named
  have hnm := (name_of_methodNamed Bd.named Bd.method).1
  have hlk : meth.locks = false := BodyLoose.notSynchronized Bd
  have X0 : Stand p l e ({ frames := 1, cells := 0, slots := 0, locals := 14 } : Room) s m #[(.ref a0), (.ref a1)] below meth c s₁ [] 0 0 := Stand.of_body Bd
  have e0 : s₁.heap = h0 := by rw [← hh, Bd.state]; rfl
  have N0 := Fr.nil n0
  show Run p e s below (Q11n11 Z a0 a1 cs vv ww b0 d0 h0 n0) ({ frames := 1, cells := 0, slots := 0, locals := 14 } : Room).cells ({ frames := 1, cells := 0, slots := 0, locals := 14 } : Room).slots s₁ (entryFrame m #[(.ref a0), (.ref a1)] 3)
  rw [ef_11n11]
  show Run _ _ _ _ _ _ _ s₁ (mkF m 0 #[.val (.ref a0), .val (.ref a1), .unset] [])
  refine go (T' := s₁) (f' := (mkF m 1 #[.val (.ref a0), .val (.ref a1), .unset] [(.ref a0)])) (by intro t k; exact XS.aloadN X0.here hx rfl (hb hby d11_0) rfl rfl k) ?_
  refine go (T' := s₁) (f' := (mkF m 2 #[.val (.ref a0), .val (.ref a1), .unset] [(.ref a1), (.ref a0)])) (by intro t k; exact XS.aloadN X0.here hx rfl (hb hby d11_1) rfl rfl k) ?_
  refine go (T' := s₁) (f' := (mkF m 7 #[.val (.ref a0), .val (.ref a1), .unset] [])) (by intro t k; exact Jvm.RoadKit.acmp (g := (mkF m 2 #[.val (.ref a0), .val (.ref a1), .unset] [(.ref a1), (.ref a0)])) X0 hx rfl rfl rfl (pc0 := 2) (pc' := 7) (same := false) rfl (hb hby d11_2) rfl (decide_eq_false fun q => (hne : ¬ (a0 = a1)) (Value.ref.inj q)) (by decide) (by decide) k) ?_
  refine go (T' := s₁) (f' := (mkF m 8 #[.val (.ref a0), .val (.ref a1), .unset] [(.ref a1)])) (by intro t k; exact XS.aloadN X0.here hx rfl (hb hby d11_7) rfl rfl k) ?_
  obtain ⟨T1, X1, e1, st1⟩ := instY X0 hx hZ hown (hw _ (List.mem_of_getElem? (i := 63) rfl)) e0 (Ins.self E_a1) (g := (mkF m 8 #[.val (.ref a0), .val (.ref a1), .unset] [(.ref a1)])) rfl rfl (hb hby d11_8)
  refine go st1 ?_
  show Run _ _ _ _ _ _ _ T1 (mkF m 11 #[.val (.ref a0), .val (.ref a1), .unset] [(.int (1 : Int32))])
  refine go (T' := T1) (f' := (mkF m 14 #[.val (.ref a0), .val (.ref a1), .unset] [])) (by intro t k; exact XS.ifNo X1.here hx rfl (hb hby d11_11) rfl ((if0 _ _).trans (feq (by decide : ¬ ((1 : Int32) = (0 : Int32)))).1) k) ?_
  refine go (T' := T1) (f' := (mkF m 15 #[.val (.ref a0), .val (.ref a1), .unset] [(.ref a1)])) (by intro t k; exact XS.aloadN X1.here hx rfl (hb hby d11_14) rfl rfl k) ?_
  obtain ⟨T2, X2, e2, st2⟩ := castY X1 hx hZ hown (hw _ (List.mem_of_getElem? (i := 63) rfl)) e1 (Ins.self E_a1) (g := (mkF m 15 #[.val (.ref a0), .val (.ref a1), .unset] [(.ref a1)])) rfl rfl (hb hby d11_15)
  refine go st2 ?_
  show Run _ _ _ _ _ _ _ T2 (mkF m 18 #[.val (.ref a0), .val (.ref a1), .unset] [(.ref a1)])
  refine go (T' := T2) (f' := (mkF m 19 #[.val (.ref a0), .val (.ref a1), .val (.ref a1)] [])) (by intro t k; exact XS.astoreN X2.here hx rfl (hb hby d11_18) rfl rfl (l' := #[.val (.ref a0), .val (.ref a1), .val (.ref a1)]) rfl k) ?_
  obtain ⟨T3, X3, e3, st3⟩ := getS2 X2 hx hZ hown (host := "") (Or.inl (hw _ (List.mem_of_getElem? (i := 18) rfl))) Via.refl e2 (S_cs.ext O0.2) (g := (mkF m 19 #[.val (.ref a0), .val (.ref a1), .val (.ref a1)] [])) rfl (hb hby d11_19)
  refine go st3 ?_
  show Run _ _ _ _ _ _ _ T3 (mkF m 22 #[.val (.ref a0), .val (.ref a1), .val (.ref a1)] [(.int cs)])
  refine go (T' := T3) (f' := (mkF m 25 #[.val (.ref a0), .val (.ref a1), .val (.ref a1)] [])) (by intro t k; exact XS.ifNo X3.here hx rfl (hb hby d11_22) rfl ((if0 _ _).trans (feq (hcs : ¬ (cs = (0 : Int32)))).1) k) ?_
  refine go (T' := T3) (f' := (mkF m 26 #[.val (.ref a0), .val (.ref a1), .val (.ref a1)] [(.ref a0)])) (by intro t k; exact XS.aloadN X3.here hx rfl (hb hby d11_25) rfl rfl k) ?_
  obtain ⟨T4, X4, e4, st4⟩ := getF X3 hx hZ hown (host := "") (Or.inl (hw _ (List.mem_of_getElem? (i := 30) rfl))) Via.refl e3 Fc_a0 (g := (mkF m 26 #[.val (.ref a0), .val (.ref a1), .val (.ref a1)] [(.ref a0)])) rfl rfl (hb hby d11_26)
  refine go st4 ?_
  show Run _ _ _ _ _ _ _ T4 (mkF m 29 #[.val (.ref a0), .val (.ref a1), .val (.ref a1)] [(.int (0 : Int32))])
  refine go (T' := T4) (f' := (mkF m 30 #[.val (.ref a0), .val (.ref a1), .val (.ref a1)] [(.ref a1), (.int (0 : Int32))])) (by intro t k; exact XS.aloadN X4.here hx rfl (hb hby d11_29) rfl rfl k) ?_
  obtain ⟨T5, X5, e5, st5⟩ := getF X4 hx hZ hown (host := "") (Or.inl (hw _ (List.mem_of_getElem? (i := 30) rfl))) Via.refl e4 Fc_a1 (g := (mkF m 30 #[.val (.ref a0), .val (.ref a1), .val (.ref a1)] [(.ref a1), (.int (0 : Int32))])) rfl rfl (hb hby d11_30)
  refine go st5 ?_
  show Run _ _ _ _ _ _ _ T5 (mkF m 33 #[.val (.ref a0), .val (.ref a1), .val (.ref a1)] [(.int (0 : Int32)), (.int (0 : Int32))])
  refine go (T' := T5) (f' := (mkF m 36 #[.val (.ref a0), .val (.ref a1), .val (.ref a1)] [])) (by intro t k; exact XS.icmpNo X5.here hx rfl (hb hby d11_33) rfl (teq (rfl : (0 : Int32) = (0 : Int32))).2 k) ?_
  refine go (T' := T5) (f' := (mkF m 37 #[.val (.ref a0), .val (.ref a1), .val (.ref a1)] [(.ref a0)])) (by intro t k; exact XS.aloadN X5.here hx rfl (hb hby d11_36) rfl rfl k) ?_
  obtain ⟨T6, X6, e6, st6⟩ := getF X5 hx hZ hown (host := "") (Or.inl (hw _ (List.mem_of_getElem? (i := 32) rfl))) Via.refl e5 Fv_a0 (g := (mkF m 37 #[.val (.ref a0), .val (.ref a1), .val (.ref a1)] [(.ref a0)])) rfl rfl (hb hby d11_37)
  refine go st6 ?_
  show Run _ _ _ _ _ _ _ T6 (mkF m 40 #[.val (.ref a0), .val (.ref a1), .val (.ref a1)] [(.ref vv)])
  refine go (T' := T6) (f' := (mkF m 41 #[.val (.ref a0), .val (.ref a1), .val (.ref a1)] [(.ref a1), (.ref vv)])) (by intro t k; exact XS.aloadN X6.here hx rfl (hb hby d11_40) rfl rfl k) ?_
  obtain ⟨T7, X7, e7, st7⟩ := getF X6 hx hZ hown (host := "") (Or.inl (hw _ (List.mem_of_getElem? (i := 32) rfl))) Via.refl e6 Fv_a1 (g := (mkF m 41 #[.val (.ref a0), .val (.ref a1), .val (.ref a1)] [(.ref a1), (.ref vv)])) rfl rfl (hb hby d11_41)
  refine go st7 ?_
  show Run _ _ _ _ _ _ _ T7 (mkF m 44 #[.val (.ref a0), .val (.ref a1), .val (.ref a1)] [(.ref ww), (.ref vv)])
  obtain ⟨_, _, ⟨T8, Lz8, kz8, nz8⟩, -, X8, ⟨Lc8, hQ8, lz8, yz8, zz8⟩, st8⟩ := Jvm.LawKit.callS X7 hx (y := (⟨"java/lang/StringLatin1", "equals", "([B[B)Z"⟩ : MethodName)) hown (mvT hZ (hw _ (List.mem_of_getElem? (i := 64) rfl))) (mvT hZ (hw _ (List.mem_of_getElem? (i := 65) rfl))) (mvT hZ (hw _ (List.mem_of_getElem? (i := 66) rfl))) (mvT hZ (hw _ (List.mem_of_getElem? (i := 67) rfl))) (by decide) (backOf (W := 0) (rm12n11 l Z aw hw [] vv ww b0 d0 h0 n0 Z0 A_vv A_ww) hZ (hw _ (List.mem_of_getElem? (i := 67) rfl)) (hw _ (List.mem_of_getElem? (i := 66) rfl)) (by decide) (by decide)) (g := (mkF m 44 #[.val (.ref a0), .val (.ref a1), .val (.ref a1)] [(.ref ww), (.ref vv)])) rfl (by rw [hml]; rfl) (argsL := [(.ref vv), (.ref ww)]) (rest := []) (lenOf pd_285bB5bB29Z rfl) rfl (by show 2 * 0 + _ ≤ _; exact Nat.le_of_eq rfl) (hb hby d11_44) (fun _ _ => ⟨rfl, e7, (by decide : 0 + 0 ≤ _), (by decide : 0 + 0 ≤ _)⟩)
  dsimp only [Pt.U, Pt.locs, Pt.cells, Pt.slots] at X8 lz8 yz8 zz8 st8 hQ8
  subst lz8 yz8 zz8
  obtain ⟨rfl, N8q, e8⟩ := hQ8
  have N8 := Fr.app N0 N8q
  refine go st8 ?_
  show Run _ _ _ _ _ _ _ T8 (mkF m 47 #[.val (.ref a0), .val (.ref a1), .val (.ref a1)] [(.int (if b0 = d0 then (1 : Int32) else (0 : Int32)))])
  obtain ⟨z9, hz9⟩ : ∃ z : Int32, z = (if (if b0 = d0 then (1 : Int32) else (0 : Int32)) = (0 : Int32) then (0 : Int32) else (1 : Int32)) := ⟨_, rfl⟩
  have J47 : Run p e s below (Q11n11 Z a0 a1 cs vv ww b0 d0 h0 n0) ({ frames := 1, cells := 0, slots := 0, locals := 14 } : Room).cells ({ frames := 1, cells := 0, slots := 0, locals := 14 } : Room).slots T8 (mkF m 55 #[.val (.ref a0), .val (.ref a1), .val (.ref a1)] [(.int z9)]) := by
    show Run _ _ _ _ _ _ _ T8 (mkF m 55 #[.val (.ref a0), .val (.ref a1), .val (.ref a1)] [(.int z9)])
    refine retZ X8 hx (t := .boolean) Bd.returns (by simp) (hb hby d11_55) hlk (by decide) (by decide) ?_
    show Q11n11 Z a0 a1 cs vv ww b0 d0 h0 n0 _ T8.heap _
    rw [e8]
    have hv' : (nar .boolean z9) = (if b0 = d0 then (1 : Int32) else (0 : Int32)) := by
      rw [hz9]
      first | rfl | ((repeat' split) <;> first | rfl | contradiction | (simp_all; done))
    have hv : (some (.int (nar .boolean z9)) : Option Value) = some (.int (if b0 = d0 then (1 : Int32) else (0 : Int32))) := congrArg (fun z => (some (.int z) : Option Value)) hv'
    exact ⟨hv, N8, rfl⟩
  show Run _ _ _ _ _ _ _ T8 (mkF m 47 #[.val (.ref a0), .val (.ref a1), .val (.ref a1)] [(.int (if b0 = d0 then (1 : Int32) else (0 : Int32)))])
  by_cases hc47 : (if b0 = d0 then (1 : Int32) else (0 : Int32)) = (0 : Int32)
  · refine go (T' := T8) (f' := (mkF m 54 #[.val (.ref a0), .val (.ref a1), .val (.ref a1)] [])) (by intro t k; exact XS.ifYes X8.here hx rfl (pc0 := 47) (pc' := 54) rfl (hb hby d11_47) rfl ((if0 _ _).trans (teq hc47).1) (by decide) (by decide) k) ?_
    refine go (T' := T8) (f' := (mkF m 55 #[.val (.ref a0), .val (.ref a1), .val (.ref a1)] [(.int (0 : Int32))])) (by intro t k; exact XS.iconst X8.here hx rfl (hb hby d11_54) k) ?_
    have ez9 : z9 = (0 : Int32) := (hz9).trans (if_pos hc47)
    subst ez9
    exact J47
  · refine go (T' := T8) (f' := (mkF m 50 #[.val (.ref a0), .val (.ref a1), .val (.ref a1)] [])) (by intro t k; exact XS.ifNo X8.here hx rfl (hb hby d11_47) rfl ((if0 _ _).trans (feq hc47).1) k) ?_
    refine go (T' := T8) (f' := (mkF m 51 #[.val (.ref a0), .val (.ref a1), .val (.ref a1)] [(.int (1 : Int32))])) (by intro t k; exact XS.iconst X8.here hx rfl (hb hby d11_50) k) ?_
    refine go (T' := T8) (f' := (mkF m 55 #[.val (.ref a0), .val (.ref a1), .val (.ref a1)] [(.int (1 : Int32))])) (by intro t k; exact XS.goto X8.here hx rfl (pc0 := 51) (pc' := 55) rfl (hb hby d11_51) (by decide) (by decide) k) ?_
    have ez9 : z9 = (1 : Int32) := (hz9).trans (if_neg hc47)
    subst ez9
    exact J47
theorem ef_11n12 (m : MethodId) (x0 : Addr) (x1 : Addr) : entryFrame m #[(.ref x0), (.ref x1)] 3 = mkF m 0 #[.val (.ref x0), .val (.ref x1), .unset] [] := by first | (simp [entryFrame, mkF, argsToLocals, Value.category]; done) | rfl
def Q11n12 (Z : State) (a0 : Addr) (a1 : Addr) (cs : Int32) (vv ww : Addr) (b0 d0 d1 : Int32) (h0 : Heap) (n0 : Nat) (v : Option Value) (h : Heap) (L : List Loc) : Prop := v = some (.int (0 : Int32)) ∧ Fr n0 L ∧ h = h0
set_option maxRecDepth 65536 in
set_option maxHeartbeats 40000000 in
theorem rm11n12 (l : Launch) (Z : State) (aw : Array Value) (hw : ∀ d ∈ tables_1, d.before aw Z = true) (ws : List Jvm.Cond) (a0 : Addr) (a1 : Addr) (cs : Int32) (vv ww : Addr) (b0 d0 d1 : Int32) (h0 : Heap) (n0 : Nat) (Z0 : n0 ≤ h0.size) (O0 : Old Z n0 h0) (S_cs : Sta Z Z.heap "java/lang/String" "COMPACT_STRINGS" "Z" (.int cs)) (hcs : ¬ (cs = (0 : Int32))) (E_a0 : Exa Z h0 a0 "java/lang/String") (Fc_a0 : Fld Z h0 a0 "java/lang/String" "coder" "B" (.int (0 : Int32))) (Fv_a0 : Fld Z h0 a0 "java/lang/String" "value" "[B" (.ref vv)) (A_vv : Ary Z h0 vv .byte [(.int b0)]) (E_a1 : Exa Z h0 a1 "java/lang/String") (Fc_a1 : Fld Z h0 a1 "java/lang/String" "coder" "B" (.int (0 : Int32))) (Fv_a1 : Fld Z h0 a1 "java/lang/String" "value" "[B" (.ref ww)) (A_ww : Ary Z h0 ww .byte [(.int d0), (.int d1)]) (hne : ¬ (a0 = a1)) :
    MetFree l (⟨"java/lang/String", "equals", "(Ljava/lang/Object;)Z"⟩ : MethodName) (head1 (Jvm.Cond.code (⟨"java/lang/String", "equals", "(Ljava/lang/Object;)Z"⟩ : MethodName) jdk_42_method_66_code 3 (some .boolean) :: ws) ({ frames := 1, cells := 0, slots := 0, locals := 14 } : Room)) (fun a U => a = #[(.ref a0), (.ref a1)] ∧ Z.Warmed39 U.vm ∧ U.heap = h0) (fun _ _ _ _ _ => True) (fun _ U o U' => ∃ v L, o = .returned v ∧ Q11n12 Z a0 a1 cs vv ww b0 d0 d1 h0 n0 v U'.heap L ∧ FrameEnd U o U' L ({ frames := 1, cells := 0, slots := 0, locals := 14 } : Room).cells ({ frames := 1, cells := 0, slots := 0, locals := 14 } : Room).slots) := by
  refine MetFree.of_bodySF (plainFor_of_name pn_3) hisR ?_
  intro p e s m args below meth c s₁ Bd hml0 hP hK
  obtain ⟨rfl, hZ, hh⟩ := hP
  have hx := Bd.exec
  have hby := Bd.bytes
  have hml : c.maxLocals = 3 := hml0
  have hown : s.vm.findClass "java/lang/String" = some m.cls := findClass_of_methodNamed Bd.named
  have hnm := (name_of_methodNamed Bd.named Bd.method).1
  have hlk : meth.locks = false := BodyLoose.notSynchronized Bd
  have X0 : Stand p l e ({ frames := 1, cells := 0, slots := 0, locals := 14 } : Room) s m #[(.ref a0), (.ref a1)] below meth c s₁ [] 0 0 := Stand.of_body Bd
  have e0 : s₁.heap = h0 := by rw [← hh, Bd.state]; rfl
  have N0 := Fr.nil n0
  show Run p e s below (Q11n12 Z a0 a1 cs vv ww b0 d0 d1 h0 n0) ({ frames := 1, cells := 0, slots := 0, locals := 14 } : Room).cells ({ frames := 1, cells := 0, slots := 0, locals := 14 } : Room).slots s₁ (entryFrame m #[(.ref a0), (.ref a1)] 3)
  rw [ef_11n12]
  show Run _ _ _ _ _ _ _ s₁ (mkF m 0 #[.val (.ref a0), .val (.ref a1), .unset] [])
  refine go (T' := s₁) (f' := (mkF m 1 #[.val (.ref a0), .val (.ref a1), .unset] [(.ref a0)])) (by intro t k; exact XS.aloadN X0.here hx rfl (hb hby d11_0) rfl rfl k) ?_
  refine go (T' := s₁) (f' := (mkF m 2 #[.val (.ref a0), .val (.ref a1), .unset] [(.ref a1), (.ref a0)])) (by intro t k; exact XS.aloadN X0.here hx rfl (hb hby d11_1) rfl rfl k) ?_
  refine go (T' := s₁) (f' := (mkF m 7 #[.val (.ref a0), .val (.ref a1), .unset] [])) (by intro t k; exact Jvm.RoadKit.acmp (g := (mkF m 2 #[.val (.ref a0), .val (.ref a1), .unset] [(.ref a1), (.ref a0)])) X0 hx rfl rfl rfl (pc0 := 2) (pc' := 7) (same := false) rfl (hb hby d11_2) rfl (decide_eq_false fun q => (hne : ¬ (a0 = a1)) (Value.ref.inj q)) (by decide) (by decide) k) ?_
  refine go (T' := s₁) (f' := (mkF m 8 #[.val (.ref a0), .val (.ref a1), .unset] [(.ref a1)])) (by intro t k; exact XS.aloadN X0.here hx rfl (hb hby d11_7) rfl rfl k) ?_
  obtain ⟨T1, X1, e1, st1⟩ := instY X0 hx hZ hown (hw _ (List.mem_of_getElem? (i := 63) rfl)) e0 (Ins.self E_a1) (g := (mkF m 8 #[.val (.ref a0), .val (.ref a1), .unset] [(.ref a1)])) rfl rfl (hb hby d11_8)
  refine go st1 ?_
  show Run _ _ _ _ _ _ _ T1 (mkF m 11 #[.val (.ref a0), .val (.ref a1), .unset] [(.int (1 : Int32))])
  refine go (T' := T1) (f' := (mkF m 14 #[.val (.ref a0), .val (.ref a1), .unset] [])) (by intro t k; exact XS.ifNo X1.here hx rfl (hb hby d11_11) rfl ((if0 _ _).trans (feq (by decide : ¬ ((1 : Int32) = (0 : Int32)))).1) k) ?_
  refine go (T' := T1) (f' := (mkF m 15 #[.val (.ref a0), .val (.ref a1), .unset] [(.ref a1)])) (by intro t k; exact XS.aloadN X1.here hx rfl (hb hby d11_14) rfl rfl k) ?_
  obtain ⟨T2, X2, e2, st2⟩ := castY X1 hx hZ hown (hw _ (List.mem_of_getElem? (i := 63) rfl)) e1 (Ins.self E_a1) (g := (mkF m 15 #[.val (.ref a0), .val (.ref a1), .unset] [(.ref a1)])) rfl rfl (hb hby d11_15)
  refine go st2 ?_
  show Run _ _ _ _ _ _ _ T2 (mkF m 18 #[.val (.ref a0), .val (.ref a1), .unset] [(.ref a1)])
  refine go (T' := T2) (f' := (mkF m 19 #[.val (.ref a0), .val (.ref a1), .val (.ref a1)] [])) (by intro t k; exact XS.astoreN X2.here hx rfl (hb hby d11_18) rfl rfl (l' := #[.val (.ref a0), .val (.ref a1), .val (.ref a1)]) rfl k) ?_
  obtain ⟨T3, X3, e3, st3⟩ := getS2 X2 hx hZ hown (host := "") (Or.inl (hw _ (List.mem_of_getElem? (i := 18) rfl))) Via.refl e2 (S_cs.ext O0.2) (g := (mkF m 19 #[.val (.ref a0), .val (.ref a1), .val (.ref a1)] [])) rfl (hb hby d11_19)
  refine go st3 ?_
  show Run _ _ _ _ _ _ _ T3 (mkF m 22 #[.val (.ref a0), .val (.ref a1), .val (.ref a1)] [(.int cs)])
  refine go (T' := T3) (f' := (mkF m 25 #[.val (.ref a0), .val (.ref a1), .val (.ref a1)] [])) (by intro t k; exact XS.ifNo X3.here hx rfl (hb hby d11_22) rfl ((if0 _ _).trans (feq (hcs : ¬ (cs = (0 : Int32)))).1) k) ?_
  refine go (T' := T3) (f' := (mkF m 26 #[.val (.ref a0), .val (.ref a1), .val (.ref a1)] [(.ref a0)])) (by intro t k; exact XS.aloadN X3.here hx rfl (hb hby d11_25) rfl rfl k) ?_
  obtain ⟨T4, X4, e4, st4⟩ := getF X3 hx hZ hown (host := "") (Or.inl (hw _ (List.mem_of_getElem? (i := 30) rfl))) Via.refl e3 Fc_a0 (g := (mkF m 26 #[.val (.ref a0), .val (.ref a1), .val (.ref a1)] [(.ref a0)])) rfl rfl (hb hby d11_26)
  refine go st4 ?_
  show Run _ _ _ _ _ _ _ T4 (mkF m 29 #[.val (.ref a0), .val (.ref a1), .val (.ref a1)] [(.int (0 : Int32))])
  refine go (T' := T4) (f' := (mkF m 30 #[.val (.ref a0), .val (.ref a1), .val (.ref a1)] [(.ref a1), (.int (0 : Int32))])) (by intro t k; exact XS.aloadN X4.here hx rfl (hb hby d11_29) rfl rfl k) ?_
  obtain ⟨T5, X5, e5, st5⟩ := getF X4 hx hZ hown (host := "") (Or.inl (hw _ (List.mem_of_getElem? (i := 30) rfl))) Via.refl e4 Fc_a1 (g := (mkF m 30 #[.val (.ref a0), .val (.ref a1), .val (.ref a1)] [(.ref a1), (.int (0 : Int32))])) rfl rfl (hb hby d11_30)
  refine go st5 ?_
  show Run _ _ _ _ _ _ _ T5 (mkF m 33 #[.val (.ref a0), .val (.ref a1), .val (.ref a1)] [(.int (0 : Int32)), (.int (0 : Int32))])
  refine go (T' := T5) (f' := (mkF m 36 #[.val (.ref a0), .val (.ref a1), .val (.ref a1)] [])) (by intro t k; exact XS.icmpNo X5.here hx rfl (hb hby d11_33) rfl (teq (rfl : (0 : Int32) = (0 : Int32))).2 k) ?_
  refine go (T' := T5) (f' := (mkF m 37 #[.val (.ref a0), .val (.ref a1), .val (.ref a1)] [(.ref a0)])) (by intro t k; exact XS.aloadN X5.here hx rfl (hb hby d11_36) rfl rfl k) ?_
  obtain ⟨T6, X6, e6, st6⟩ := getF X5 hx hZ hown (host := "") (Or.inl (hw _ (List.mem_of_getElem? (i := 32) rfl))) Via.refl e5 Fv_a0 (g := (mkF m 37 #[.val (.ref a0), .val (.ref a1), .val (.ref a1)] [(.ref a0)])) rfl rfl (hb hby d11_37)
  refine go st6 ?_
  show Run _ _ _ _ _ _ _ T6 (mkF m 40 #[.val (.ref a0), .val (.ref a1), .val (.ref a1)] [(.ref vv)])
  refine go (T' := T6) (f' := (mkF m 41 #[.val (.ref a0), .val (.ref a1), .val (.ref a1)] [(.ref a1), (.ref vv)])) (by intro t k; exact XS.aloadN X6.here hx rfl (hb hby d11_40) rfl rfl k) ?_
  obtain ⟨T7, X7, e7, st7⟩ := getF X6 hx hZ hown (host := "") (Or.inl (hw _ (List.mem_of_getElem? (i := 32) rfl))) Via.refl e6 Fv_a1 (g := (mkF m 41 #[.val (.ref a0), .val (.ref a1), .val (.ref a1)] [(.ref a1), (.ref vv)])) rfl rfl (hb hby d11_41)
  refine go st7 ?_
  show Run _ _ _ _ _ _ _ T7 (mkF m 44 #[.val (.ref a0), .val (.ref a1), .val (.ref a1)] [(.ref ww), (.ref vv)])
  obtain ⟨_, _, ⟨T8, Lz8, kz8, nz8⟩, -, X8, ⟨Lc8, hQ8, lz8, yz8, zz8⟩, st8⟩ := Jvm.LawKit.callS X7 hx (y := (⟨"java/lang/StringLatin1", "equals", "([B[B)Z"⟩ : MethodName)) hown (mvT hZ (hw _ (List.mem_of_getElem? (i := 64) rfl))) (mvT hZ (hw _ (List.mem_of_getElem? (i := 65) rfl))) (mvT hZ (hw _ (List.mem_of_getElem? (i := 66) rfl))) (mvT hZ (hw _ (List.mem_of_getElem? (i := 67) rfl))) (by decide) (backOf (W := 0) (rm12n12 l Z aw hw [] vv ww b0 d0 d1 h0 n0 Z0 A_vv A_ww) hZ (hw _ (List.mem_of_getElem? (i := 67) rfl)) (hw _ (List.mem_of_getElem? (i := 66) rfl)) (by decide) (by decide)) (g := (mkF m 44 #[.val (.ref a0), .val (.ref a1), .val (.ref a1)] [(.ref ww), (.ref vv)])) rfl (by rw [hml]; rfl) (argsL := [(.ref vv), (.ref ww)]) (rest := []) (lenOf pd_285bB5bB29Z rfl) rfl (by show 2 * 0 + _ ≤ _; exact Nat.le_of_eq rfl) (hb hby d11_44) (fun _ _ => ⟨rfl, e7, (by decide : 0 + 0 ≤ _), (by decide : 0 + 0 ≤ _)⟩)
  dsimp only [Pt.U, Pt.locs, Pt.cells, Pt.slots] at X8 lz8 yz8 zz8 st8 hQ8
  subst lz8 yz8 zz8
  obtain ⟨rfl, N8q, e8⟩ := hQ8
  have N8 := Fr.app N0 N8q
  refine go st8 ?_
  show Run _ _ _ _ _ _ _ T8 (mkF m 47 #[.val (.ref a0), .val (.ref a1), .val (.ref a1)] [(.int (0 : Int32))])
  refine go (T' := T8) (f' := (mkF m 54 #[.val (.ref a0), .val (.ref a1), .val (.ref a1)] [])) (by intro t k; exact XS.ifYes X8.here hx rfl (pc0 := 47) (pc' := 54) rfl (hb hby d11_47) rfl ((if0 _ _).trans (teq (rfl : (0 : Int32) = (0 : Int32))).1) (by decide) (by decide) k) ?_
  refine go (T' := T8) (f' := (mkF m 55 #[.val (.ref a0), .val (.ref a1), .val (.ref a1)] [(.int (0 : Int32))])) (by intro t k; exact XS.iconst X8.here hx rfl (hb hby d11_54) k) ?_
  refine retZ X8 hx (t := .boolean) Bd.returns (by simp) (hb hby d11_55) hlk (by decide) (by decide) ?_
  show Q11n12 Z a0 a1 cs vv ww b0 d0 d1 h0 n0 _ T8.heap _
  rw [e8]
  have hv' : (nar .boolean (0 : Int32)) = (0 : Int32) := by
    first | rfl | ((repeat' split) <;> first | rfl | contradiction | (simp_all; done))
  have hv : (some (.int (nar .boolean (0 : Int32))) : Option Value) = some (.int (0 : Int32)) := congrArg (fun z => (some (.int z) : Option Value)) hv'
  exact ⟨hv, N8, rfl⟩
theorem ef_11n21 (m : MethodId) (x0 : Addr) (x1 : Addr) : entryFrame m #[(.ref x0), (.ref x1)] 3 = mkF m 0 #[.val (.ref x0), .val (.ref x1), .unset] [] := by first | (simp [entryFrame, mkF, argsToLocals, Value.category]; done) | rfl
def Q11n21 (Z : State) (a0 : Addr) (a1 : Addr) (cs : Int32) (vv ww : Addr) (b0 b1 d0 : Int32) (h0 : Heap) (n0 : Nat) (v : Option Value) (h : Heap) (L : List Loc) : Prop := v = some (.int (0 : Int32)) ∧ Fr n0 L ∧ h = h0
set_option maxRecDepth 65536 in
set_option maxHeartbeats 40000000 in
theorem rm11n21 (l : Launch) (Z : State) (aw : Array Value) (hw : ∀ d ∈ tables_1, d.before aw Z = true) (ws : List Jvm.Cond) (a0 : Addr) (a1 : Addr) (cs : Int32) (vv ww : Addr) (b0 b1 d0 : Int32) (h0 : Heap) (n0 : Nat) (Z0 : n0 ≤ h0.size) (O0 : Old Z n0 h0) (S_cs : Sta Z Z.heap "java/lang/String" "COMPACT_STRINGS" "Z" (.int cs)) (hcs : ¬ (cs = (0 : Int32))) (E_a0 : Exa Z h0 a0 "java/lang/String") (Fc_a0 : Fld Z h0 a0 "java/lang/String" "coder" "B" (.int (0 : Int32))) (Fv_a0 : Fld Z h0 a0 "java/lang/String" "value" "[B" (.ref vv)) (A_vv : Ary Z h0 vv .byte [(.int b0), (.int b1)]) (E_a1 : Exa Z h0 a1 "java/lang/String") (Fc_a1 : Fld Z h0 a1 "java/lang/String" "coder" "B" (.int (0 : Int32))) (Fv_a1 : Fld Z h0 a1 "java/lang/String" "value" "[B" (.ref ww)) (A_ww : Ary Z h0 ww .byte [(.int d0)]) (hne : ¬ (a0 = a1)) :
    MetFree l (⟨"java/lang/String", "equals", "(Ljava/lang/Object;)Z"⟩ : MethodName) (head1 (Jvm.Cond.code (⟨"java/lang/String", "equals", "(Ljava/lang/Object;)Z"⟩ : MethodName) jdk_42_method_66_code 3 (some .boolean) :: ws) ({ frames := 1, cells := 0, slots := 0, locals := 14 } : Room)) (fun a U => a = #[(.ref a0), (.ref a1)] ∧ Z.Warmed39 U.vm ∧ U.heap = h0) (fun _ _ _ _ _ => True) (fun _ U o U' => ∃ v L, o = .returned v ∧ Q11n21 Z a0 a1 cs vv ww b0 b1 d0 h0 n0 v U'.heap L ∧ FrameEnd U o U' L ({ frames := 1, cells := 0, slots := 0, locals := 14 } : Room).cells ({ frames := 1, cells := 0, slots := 0, locals := 14 } : Room).slots) := by
  refine MetFree.of_bodySF (plainFor_of_name pn_3) hisR ?_
  intro p e s m args below meth c s₁ Bd hml0 hP hK
  obtain ⟨rfl, hZ, hh⟩ := hP
  have hx := Bd.exec
  have hby := Bd.bytes
  have hml : c.maxLocals = 3 := hml0
  have hown : s.vm.findClass "java/lang/String" = some m.cls := findClass_of_methodNamed Bd.named
  have hnm := (name_of_methodNamed Bd.named Bd.method).1
  have hlk : meth.locks = false := BodyLoose.notSynchronized Bd
  have X0 : Stand p l e ({ frames := 1, cells := 0, slots := 0, locals := 14 } : Room) s m #[(.ref a0), (.ref a1)] below meth c s₁ [] 0 0 := Stand.of_body Bd
  have e0 : s₁.heap = h0 := by rw [← hh, Bd.state]; rfl
  have N0 := Fr.nil n0
  show Run p e s below (Q11n21 Z a0 a1 cs vv ww b0 b1 d0 h0 n0) ({ frames := 1, cells := 0, slots := 0, locals := 14 } : Room).cells ({ frames := 1, cells := 0, slots := 0, locals := 14 } : Room).slots s₁ (entryFrame m #[(.ref a0), (.ref a1)] 3)
  rw [ef_11n21]
  show Run _ _ _ _ _ _ _ s₁ (mkF m 0 #[.val (.ref a0), .val (.ref a1), .unset] [])
  refine go (T' := s₁) (f' := (mkF m 1 #[.val (.ref a0), .val (.ref a1), .unset] [(.ref a0)])) (by intro t k; exact XS.aloadN X0.here hx rfl (hb hby d11_0) rfl rfl k) ?_
  refine go (T' := s₁) (f' := (mkF m 2 #[.val (.ref a0), .val (.ref a1), .unset] [(.ref a1), (.ref a0)])) (by intro t k; exact XS.aloadN X0.here hx rfl (hb hby d11_1) rfl rfl k) ?_
  refine go (T' := s₁) (f' := (mkF m 7 #[.val (.ref a0), .val (.ref a1), .unset] [])) (by intro t k; exact Jvm.RoadKit.acmp (g := (mkF m 2 #[.val (.ref a0), .val (.ref a1), .unset] [(.ref a1), (.ref a0)])) X0 hx rfl rfl rfl (pc0 := 2) (pc' := 7) (same := false) rfl (hb hby d11_2) rfl (decide_eq_false fun q => (hne : ¬ (a0 = a1)) (Value.ref.inj q)) (by decide) (by decide) k) ?_
  refine go (T' := s₁) (f' := (mkF m 8 #[.val (.ref a0), .val (.ref a1), .unset] [(.ref a1)])) (by intro t k; exact XS.aloadN X0.here hx rfl (hb hby d11_7) rfl rfl k) ?_
  obtain ⟨T1, X1, e1, st1⟩ := instY X0 hx hZ hown (hw _ (List.mem_of_getElem? (i := 63) rfl)) e0 (Ins.self E_a1) (g := (mkF m 8 #[.val (.ref a0), .val (.ref a1), .unset] [(.ref a1)])) rfl rfl (hb hby d11_8)
  refine go st1 ?_
  show Run _ _ _ _ _ _ _ T1 (mkF m 11 #[.val (.ref a0), .val (.ref a1), .unset] [(.int (1 : Int32))])
  refine go (T' := T1) (f' := (mkF m 14 #[.val (.ref a0), .val (.ref a1), .unset] [])) (by intro t k; exact XS.ifNo X1.here hx rfl (hb hby d11_11) rfl ((if0 _ _).trans (feq (by decide : ¬ ((1 : Int32) = (0 : Int32)))).1) k) ?_
  refine go (T' := T1) (f' := (mkF m 15 #[.val (.ref a0), .val (.ref a1), .unset] [(.ref a1)])) (by intro t k; exact XS.aloadN X1.here hx rfl (hb hby d11_14) rfl rfl k) ?_
  obtain ⟨T2, X2, e2, st2⟩ := castY X1 hx hZ hown (hw _ (List.mem_of_getElem? (i := 63) rfl)) e1 (Ins.self E_a1) (g := (mkF m 15 #[.val (.ref a0), .val (.ref a1), .unset] [(.ref a1)])) rfl rfl (hb hby d11_15)
  refine go st2 ?_
  show Run _ _ _ _ _ _ _ T2 (mkF m 18 #[.val (.ref a0), .val (.ref a1), .unset] [(.ref a1)])
  refine go (T' := T2) (f' := (mkF m 19 #[.val (.ref a0), .val (.ref a1), .val (.ref a1)] [])) (by intro t k; exact XS.astoreN X2.here hx rfl (hb hby d11_18) rfl rfl (l' := #[.val (.ref a0), .val (.ref a1), .val (.ref a1)]) rfl k) ?_
  obtain ⟨T3, X3, e3, st3⟩ := getS2 X2 hx hZ hown (host := "") (Or.inl (hw _ (List.mem_of_getElem? (i := 18) rfl))) Via.refl e2 (S_cs.ext O0.2) (g := (mkF m 19 #[.val (.ref a0), .val (.ref a1), .val (.ref a1)] [])) rfl (hb hby d11_19)
  refine go st3 ?_
  show Run _ _ _ _ _ _ _ T3 (mkF m 22 #[.val (.ref a0), .val (.ref a1), .val (.ref a1)] [(.int cs)])
  refine go (T' := T3) (f' := (mkF m 25 #[.val (.ref a0), .val (.ref a1), .val (.ref a1)] [])) (by intro t k; exact XS.ifNo X3.here hx rfl (hb hby d11_22) rfl ((if0 _ _).trans (feq (hcs : ¬ (cs = (0 : Int32)))).1) k) ?_
  refine go (T' := T3) (f' := (mkF m 26 #[.val (.ref a0), .val (.ref a1), .val (.ref a1)] [(.ref a0)])) (by intro t k; exact XS.aloadN X3.here hx rfl (hb hby d11_25) rfl rfl k) ?_
  obtain ⟨T4, X4, e4, st4⟩ := getF X3 hx hZ hown (host := "") (Or.inl (hw _ (List.mem_of_getElem? (i := 30) rfl))) Via.refl e3 Fc_a0 (g := (mkF m 26 #[.val (.ref a0), .val (.ref a1), .val (.ref a1)] [(.ref a0)])) rfl rfl (hb hby d11_26)
  refine go st4 ?_
  show Run _ _ _ _ _ _ _ T4 (mkF m 29 #[.val (.ref a0), .val (.ref a1), .val (.ref a1)] [(.int (0 : Int32))])
  refine go (T' := T4) (f' := (mkF m 30 #[.val (.ref a0), .val (.ref a1), .val (.ref a1)] [(.ref a1), (.int (0 : Int32))])) (by intro t k; exact XS.aloadN X4.here hx rfl (hb hby d11_29) rfl rfl k) ?_
  obtain ⟨T5, X5, e5, st5⟩ := getF X4 hx hZ hown (host := "") (Or.inl (hw _ (List.mem_of_getElem? (i := 30) rfl))) Via.refl e4 Fc_a1 (g := (mkF m 30 #[.val (.ref a0), .val (.ref a1), .val (.ref a1)] [(.ref a1), (.int (0 : Int32))])) rfl rfl (hb hby d11_30)
  refine go st5 ?_
  show Run _ _ _ _ _ _ _ T5 (mkF m 33 #[.val (.ref a0), .val (.ref a1), .val (.ref a1)] [(.int (0 : Int32)), (.int (0 : Int32))])
  refine go (T' := T5) (f' := (mkF m 36 #[.val (.ref a0), .val (.ref a1), .val (.ref a1)] [])) (by intro t k; exact XS.icmpNo X5.here hx rfl (hb hby d11_33) rfl (teq (rfl : (0 : Int32) = (0 : Int32))).2 k) ?_
  refine go (T' := T5) (f' := (mkF m 37 #[.val (.ref a0), .val (.ref a1), .val (.ref a1)] [(.ref a0)])) (by intro t k; exact XS.aloadN X5.here hx rfl (hb hby d11_36) rfl rfl k) ?_
  obtain ⟨T6, X6, e6, st6⟩ := getF X5 hx hZ hown (host := "") (Or.inl (hw _ (List.mem_of_getElem? (i := 32) rfl))) Via.refl e5 Fv_a0 (g := (mkF m 37 #[.val (.ref a0), .val (.ref a1), .val (.ref a1)] [(.ref a0)])) rfl rfl (hb hby d11_37)
  refine go st6 ?_
  show Run _ _ _ _ _ _ _ T6 (mkF m 40 #[.val (.ref a0), .val (.ref a1), .val (.ref a1)] [(.ref vv)])
  refine go (T' := T6) (f' := (mkF m 41 #[.val (.ref a0), .val (.ref a1), .val (.ref a1)] [(.ref a1), (.ref vv)])) (by intro t k; exact XS.aloadN X6.here hx rfl (hb hby d11_40) rfl rfl k) ?_
  obtain ⟨T7, X7, e7, st7⟩ := getF X6 hx hZ hown (host := "") (Or.inl (hw _ (List.mem_of_getElem? (i := 32) rfl))) Via.refl e6 Fv_a1 (g := (mkF m 41 #[.val (.ref a0), .val (.ref a1), .val (.ref a1)] [(.ref a1), (.ref vv)])) rfl rfl (hb hby d11_41)
  refine go st7 ?_
  show Run _ _ _ _ _ _ _ T7 (mkF m 44 #[.val (.ref a0), .val (.ref a1), .val (.ref a1)] [(.ref ww), (.ref vv)])
  obtain ⟨_, _, ⟨T8, Lz8, kz8, nz8⟩, -, X8, ⟨Lc8, hQ8, lz8, yz8, zz8⟩, st8⟩ := Jvm.LawKit.callS X7 hx (y := (⟨"java/lang/StringLatin1", "equals", "([B[B)Z"⟩ : MethodName)) hown (mvT hZ (hw _ (List.mem_of_getElem? (i := 64) rfl))) (mvT hZ (hw _ (List.mem_of_getElem? (i := 65) rfl))) (mvT hZ (hw _ (List.mem_of_getElem? (i := 66) rfl))) (mvT hZ (hw _ (List.mem_of_getElem? (i := 67) rfl))) (by decide) (backOf (W := 0) (rm12n21 l Z aw hw [] vv ww b0 b1 d0 h0 n0 Z0 A_vv A_ww) hZ (hw _ (List.mem_of_getElem? (i := 67) rfl)) (hw _ (List.mem_of_getElem? (i := 66) rfl)) (by decide) (by decide)) (g := (mkF m 44 #[.val (.ref a0), .val (.ref a1), .val (.ref a1)] [(.ref ww), (.ref vv)])) rfl (by rw [hml]; rfl) (argsL := [(.ref vv), (.ref ww)]) (rest := []) (lenOf pd_285bB5bB29Z rfl) rfl (by show 2 * 0 + _ ≤ _; exact Nat.le_of_eq rfl) (hb hby d11_44) (fun _ _ => ⟨rfl, e7, (by decide : 0 + 0 ≤ _), (by decide : 0 + 0 ≤ _)⟩)
  dsimp only [Pt.U, Pt.locs, Pt.cells, Pt.slots] at X8 lz8 yz8 zz8 st8 hQ8
  subst lz8 yz8 zz8
  obtain ⟨rfl, N8q, e8⟩ := hQ8
  have N8 := Fr.app N0 N8q
  refine go st8 ?_
  show Run _ _ _ _ _ _ _ T8 (mkF m 47 #[.val (.ref a0), .val (.ref a1), .val (.ref a1)] [(.int (0 : Int32))])
  refine go (T' := T8) (f' := (mkF m 54 #[.val (.ref a0), .val (.ref a1), .val (.ref a1)] [])) (by intro t k; exact XS.ifYes X8.here hx rfl (pc0 := 47) (pc' := 54) rfl (hb hby d11_47) rfl ((if0 _ _).trans (teq (rfl : (0 : Int32) = (0 : Int32))).1) (by decide) (by decide) k) ?_
  refine go (T' := T8) (f' := (mkF m 55 #[.val (.ref a0), .val (.ref a1), .val (.ref a1)] [(.int (0 : Int32))])) (by intro t k; exact XS.iconst X8.here hx rfl (hb hby d11_54) k) ?_
  refine retZ X8 hx (t := .boolean) Bd.returns (by simp) (hb hby d11_55) hlk (by decide) (by decide) ?_
  show Q11n21 Z a0 a1 cs vv ww b0 b1 d0 h0 n0 _ T8.heap _
  rw [e8]
  have hv' : (nar .boolean (0 : Int32)) = (0 : Int32) := by
    first | rfl | ((repeat' split) <;> first | rfl | contradiction | (simp_all; done))
  have hv : (some (.int (nar .boolean (0 : Int32))) : Option Value) = some (.int (0 : Int32)) := congrArg (fun z => (some (.int z) : Option Value)) hv'
  exact ⟨hv, N8, rfl⟩
theorem ef_11n22 (m : MethodId) (x0 : Addr) (x1 : Addr) : entryFrame m #[(.ref x0), (.ref x1)] 3 = mkF m 0 #[.val (.ref x0), .val (.ref x1), .unset] [] := by first | (simp [entryFrame, mkF, argsToLocals, Value.category]; done) | rfl
def Q11n22 (Z : State) (a0 : Addr) (a1 : Addr) (cs : Int32) (vv ww : Addr) (b0 b1 d0 d1 : Int32) (h0 : Heap) (n0 : Nat) (v : Option Value) (h : Heap) (L : List Loc) : Prop := v = some (.int (if b0 = d0 then (if b1 = d1 then (1 : Int32) else (0 : Int32)) else (0 : Int32))) ∧ Fr n0 L ∧ h = h0
set_option maxRecDepth 65536 in
set_option maxHeartbeats 40000000 in
theorem rm11n22 (l : Launch) (Z : State) (aw : Array Value) (hw : ∀ d ∈ tables_1, d.before aw Z = true) (ws : List Jvm.Cond) (a0 : Addr) (a1 : Addr) (cs : Int32) (vv ww : Addr) (b0 b1 d0 d1 : Int32) (h0 : Heap) (n0 : Nat) (Z0 : n0 ≤ h0.size) (O0 : Old Z n0 h0) (S_cs : Sta Z Z.heap "java/lang/String" "COMPACT_STRINGS" "Z" (.int cs)) (hcs : ¬ (cs = (0 : Int32))) (E_a0 : Exa Z h0 a0 "java/lang/String") (Fc_a0 : Fld Z h0 a0 "java/lang/String" "coder" "B" (.int (0 : Int32))) (Fv_a0 : Fld Z h0 a0 "java/lang/String" "value" "[B" (.ref vv)) (A_vv : Ary Z h0 vv .byte [(.int b0), (.int b1)]) (E_a1 : Exa Z h0 a1 "java/lang/String") (Fc_a1 : Fld Z h0 a1 "java/lang/String" "coder" "B" (.int (0 : Int32))) (Fv_a1 : Fld Z h0 a1 "java/lang/String" "value" "[B" (.ref ww)) (A_ww : Ary Z h0 ww .byte [(.int d0), (.int d1)]) (hne : ¬ (a0 = a1)) :
    MetFree l (⟨"java/lang/String", "equals", "(Ljava/lang/Object;)Z"⟩ : MethodName) (head1 (Jvm.Cond.code (⟨"java/lang/String", "equals", "(Ljava/lang/Object;)Z"⟩ : MethodName) jdk_42_method_66_code 3 (some .boolean) :: ws) ({ frames := 1, cells := 0, slots := 0, locals := 14 } : Room)) (fun a U => a = #[(.ref a0), (.ref a1)] ∧ Z.Warmed39 U.vm ∧ U.heap = h0) (fun _ _ _ _ _ => True) (fun _ U o U' => ∃ v L, o = .returned v ∧ Q11n22 Z a0 a1 cs vv ww b0 b1 d0 d1 h0 n0 v U'.heap L ∧ FrameEnd U o U' L ({ frames := 1, cells := 0, slots := 0, locals := 14 } : Room).cells ({ frames := 1, cells := 0, slots := 0, locals := 14 } : Room).slots) := by
  refine MetFree.of_bodySF (plainFor_of_name pn_3) hisR ?_
  intro p e s m args below meth c s₁ Bd hml0 hP hK
  obtain ⟨rfl, hZ, hh⟩ := hP
  have hx := Bd.exec
  have hby := Bd.bytes
  have hml : c.maxLocals = 3 := hml0
  have hown : s.vm.findClass "java/lang/String" = some m.cls := findClass_of_methodNamed Bd.named
  have hnm := (name_of_methodNamed Bd.named Bd.method).1
  have hlk : meth.locks = false := BodyLoose.notSynchronized Bd
  have X0 : Stand p l e ({ frames := 1, cells := 0, slots := 0, locals := 14 } : Room) s m #[(.ref a0), (.ref a1)] below meth c s₁ [] 0 0 := Stand.of_body Bd
  have e0 : s₁.heap = h0 := by rw [← hh, Bd.state]; rfl
  have N0 := Fr.nil n0
  show Run p e s below (Q11n22 Z a0 a1 cs vv ww b0 b1 d0 d1 h0 n0) ({ frames := 1, cells := 0, slots := 0, locals := 14 } : Room).cells ({ frames := 1, cells := 0, slots := 0, locals := 14 } : Room).slots s₁ (entryFrame m #[(.ref a0), (.ref a1)] 3)
  rw [ef_11n22]
  show Run _ _ _ _ _ _ _ s₁ (mkF m 0 #[.val (.ref a0), .val (.ref a1), .unset] [])
  refine go (T' := s₁) (f' := (mkF m 1 #[.val (.ref a0), .val (.ref a1), .unset] [(.ref a0)])) (by intro t k; exact XS.aloadN X0.here hx rfl (hb hby d11_0) rfl rfl k) ?_
  refine go (T' := s₁) (f' := (mkF m 2 #[.val (.ref a0), .val (.ref a1), .unset] [(.ref a1), (.ref a0)])) (by intro t k; exact XS.aloadN X0.here hx rfl (hb hby d11_1) rfl rfl k) ?_
  refine go (T' := s₁) (f' := (mkF m 7 #[.val (.ref a0), .val (.ref a1), .unset] [])) (by intro t k; exact Jvm.RoadKit.acmp (g := (mkF m 2 #[.val (.ref a0), .val (.ref a1), .unset] [(.ref a1), (.ref a0)])) X0 hx rfl rfl rfl (pc0 := 2) (pc' := 7) (same := false) rfl (hb hby d11_2) rfl (decide_eq_false fun q => (hne : ¬ (a0 = a1)) (Value.ref.inj q)) (by decide) (by decide) k) ?_
  refine go (T' := s₁) (f' := (mkF m 8 #[.val (.ref a0), .val (.ref a1), .unset] [(.ref a1)])) (by intro t k; exact XS.aloadN X0.here hx rfl (hb hby d11_7) rfl rfl k) ?_
  obtain ⟨T1, X1, e1, st1⟩ := instY X0 hx hZ hown (hw _ (List.mem_of_getElem? (i := 63) rfl)) e0 (Ins.self E_a1) (g := (mkF m 8 #[.val (.ref a0), .val (.ref a1), .unset] [(.ref a1)])) rfl rfl (hb hby d11_8)
  refine go st1 ?_
  show Run _ _ _ _ _ _ _ T1 (mkF m 11 #[.val (.ref a0), .val (.ref a1), .unset] [(.int (1 : Int32))])
  refine go (T' := T1) (f' := (mkF m 14 #[.val (.ref a0), .val (.ref a1), .unset] [])) (by intro t k; exact XS.ifNo X1.here hx rfl (hb hby d11_11) rfl ((if0 _ _).trans (feq (by decide : ¬ ((1 : Int32) = (0 : Int32)))).1) k) ?_
  refine go (T' := T1) (f' := (mkF m 15 #[.val (.ref a0), .val (.ref a1), .unset] [(.ref a1)])) (by intro t k; exact XS.aloadN X1.here hx rfl (hb hby d11_14) rfl rfl k) ?_
  obtain ⟨T2, X2, e2, st2⟩ := castY X1 hx hZ hown (hw _ (List.mem_of_getElem? (i := 63) rfl)) e1 (Ins.self E_a1) (g := (mkF m 15 #[.val (.ref a0), .val (.ref a1), .unset] [(.ref a1)])) rfl rfl (hb hby d11_15)
  refine go st2 ?_
  show Run _ _ _ _ _ _ _ T2 (mkF m 18 #[.val (.ref a0), .val (.ref a1), .unset] [(.ref a1)])
  refine go (T' := T2) (f' := (mkF m 19 #[.val (.ref a0), .val (.ref a1), .val (.ref a1)] [])) (by intro t k; exact XS.astoreN X2.here hx rfl (hb hby d11_18) rfl rfl (l' := #[.val (.ref a0), .val (.ref a1), .val (.ref a1)]) rfl k) ?_
  obtain ⟨T3, X3, e3, st3⟩ := getS2 X2 hx hZ hown (host := "") (Or.inl (hw _ (List.mem_of_getElem? (i := 18) rfl))) Via.refl e2 (S_cs.ext O0.2) (g := (mkF m 19 #[.val (.ref a0), .val (.ref a1), .val (.ref a1)] [])) rfl (hb hby d11_19)
  refine go st3 ?_
  show Run _ _ _ _ _ _ _ T3 (mkF m 22 #[.val (.ref a0), .val (.ref a1), .val (.ref a1)] [(.int cs)])
  refine go (T' := T3) (f' := (mkF m 25 #[.val (.ref a0), .val (.ref a1), .val (.ref a1)] [])) (by intro t k; exact XS.ifNo X3.here hx rfl (hb hby d11_22) rfl ((if0 _ _).trans (feq (hcs : ¬ (cs = (0 : Int32)))).1) k) ?_
  refine go (T' := T3) (f' := (mkF m 26 #[.val (.ref a0), .val (.ref a1), .val (.ref a1)] [(.ref a0)])) (by intro t k; exact XS.aloadN X3.here hx rfl (hb hby d11_25) rfl rfl k) ?_
  obtain ⟨T4, X4, e4, st4⟩ := getF X3 hx hZ hown (host := "") (Or.inl (hw _ (List.mem_of_getElem? (i := 30) rfl))) Via.refl e3 Fc_a0 (g := (mkF m 26 #[.val (.ref a0), .val (.ref a1), .val (.ref a1)] [(.ref a0)])) rfl rfl (hb hby d11_26)
  refine go st4 ?_
  show Run _ _ _ _ _ _ _ T4 (mkF m 29 #[.val (.ref a0), .val (.ref a1), .val (.ref a1)] [(.int (0 : Int32))])
  refine go (T' := T4) (f' := (mkF m 30 #[.val (.ref a0), .val (.ref a1), .val (.ref a1)] [(.ref a1), (.int (0 : Int32))])) (by intro t k; exact XS.aloadN X4.here hx rfl (hb hby d11_29) rfl rfl k) ?_
  obtain ⟨T5, X5, e5, st5⟩ := getF X4 hx hZ hown (host := "") (Or.inl (hw _ (List.mem_of_getElem? (i := 30) rfl))) Via.refl e4 Fc_a1 (g := (mkF m 30 #[.val (.ref a0), .val (.ref a1), .val (.ref a1)] [(.ref a1), (.int (0 : Int32))])) rfl rfl (hb hby d11_30)
  refine go st5 ?_
  show Run _ _ _ _ _ _ _ T5 (mkF m 33 #[.val (.ref a0), .val (.ref a1), .val (.ref a1)] [(.int (0 : Int32)), (.int (0 : Int32))])
  refine go (T' := T5) (f' := (mkF m 36 #[.val (.ref a0), .val (.ref a1), .val (.ref a1)] [])) (by intro t k; exact XS.icmpNo X5.here hx rfl (hb hby d11_33) rfl (teq (rfl : (0 : Int32) = (0 : Int32))).2 k) ?_
  refine go (T' := T5) (f' := (mkF m 37 #[.val (.ref a0), .val (.ref a1), .val (.ref a1)] [(.ref a0)])) (by intro t k; exact XS.aloadN X5.here hx rfl (hb hby d11_36) rfl rfl k) ?_
  obtain ⟨T6, X6, e6, st6⟩ := getF X5 hx hZ hown (host := "") (Or.inl (hw _ (List.mem_of_getElem? (i := 32) rfl))) Via.refl e5 Fv_a0 (g := (mkF m 37 #[.val (.ref a0), .val (.ref a1), .val (.ref a1)] [(.ref a0)])) rfl rfl (hb hby d11_37)
  refine go st6 ?_
  show Run _ _ _ _ _ _ _ T6 (mkF m 40 #[.val (.ref a0), .val (.ref a1), .val (.ref a1)] [(.ref vv)])
  refine go (T' := T6) (f' := (mkF m 41 #[.val (.ref a0), .val (.ref a1), .val (.ref a1)] [(.ref a1), (.ref vv)])) (by intro t k; exact XS.aloadN X6.here hx rfl (hb hby d11_40) rfl rfl k) ?_
  obtain ⟨T7, X7, e7, st7⟩ := getF X6 hx hZ hown (host := "") (Or.inl (hw _ (List.mem_of_getElem? (i := 32) rfl))) Via.refl e6 Fv_a1 (g := (mkF m 41 #[.val (.ref a0), .val (.ref a1), .val (.ref a1)] [(.ref a1), (.ref vv)])) rfl rfl (hb hby d11_41)
  refine go st7 ?_
  show Run _ _ _ _ _ _ _ T7 (mkF m 44 #[.val (.ref a0), .val (.ref a1), .val (.ref a1)] [(.ref ww), (.ref vv)])
  obtain ⟨_, _, ⟨T8, Lz8, kz8, nz8⟩, -, X8, ⟨Lc8, hQ8, lz8, yz8, zz8⟩, st8⟩ := Jvm.LawKit.callS X7 hx (y := (⟨"java/lang/StringLatin1", "equals", "([B[B)Z"⟩ : MethodName)) hown (mvT hZ (hw _ (List.mem_of_getElem? (i := 64) rfl))) (mvT hZ (hw _ (List.mem_of_getElem? (i := 65) rfl))) (mvT hZ (hw _ (List.mem_of_getElem? (i := 66) rfl))) (mvT hZ (hw _ (List.mem_of_getElem? (i := 67) rfl))) (by decide) (backOf (W := 0) (rm12n22 l Z aw hw [] vv ww b0 b1 d0 d1 h0 n0 Z0 A_vv A_ww) hZ (hw _ (List.mem_of_getElem? (i := 67) rfl)) (hw _ (List.mem_of_getElem? (i := 66) rfl)) (by decide) (by decide)) (g := (mkF m 44 #[.val (.ref a0), .val (.ref a1), .val (.ref a1)] [(.ref ww), (.ref vv)])) rfl (by rw [hml]; rfl) (argsL := [(.ref vv), (.ref ww)]) (rest := []) (lenOf pd_285bB5bB29Z rfl) rfl (by show 2 * 0 + _ ≤ _; exact Nat.le_of_eq rfl) (hb hby d11_44) (fun _ _ => ⟨rfl, e7, (by decide : 0 + 0 ≤ _), (by decide : 0 + 0 ≤ _)⟩)
  dsimp only [Pt.U, Pt.locs, Pt.cells, Pt.slots] at X8 lz8 yz8 zz8 st8 hQ8
  subst lz8 yz8 zz8
  obtain ⟨rfl, N8q, e8⟩ := hQ8
  have N8 := Fr.app N0 N8q
  refine go st8 ?_
  show Run _ _ _ _ _ _ _ T8 (mkF m 47 #[.val (.ref a0), .val (.ref a1), .val (.ref a1)] [(.int (if b0 = d0 then (if b1 = d1 then (1 : Int32) else (0 : Int32)) else (0 : Int32)))])
  obtain ⟨z9, hz9⟩ : ∃ z : Int32, z = (if (if b0 = d0 then (if b1 = d1 then (1 : Int32) else (0 : Int32)) else (0 : Int32)) = (0 : Int32) then (0 : Int32) else (1 : Int32)) := ⟨_, rfl⟩
  have J47 : Run p e s below (Q11n22 Z a0 a1 cs vv ww b0 b1 d0 d1 h0 n0) ({ frames := 1, cells := 0, slots := 0, locals := 14 } : Room).cells ({ frames := 1, cells := 0, slots := 0, locals := 14 } : Room).slots T8 (mkF m 55 #[.val (.ref a0), .val (.ref a1), .val (.ref a1)] [(.int z9)]) := by
    show Run _ _ _ _ _ _ _ T8 (mkF m 55 #[.val (.ref a0), .val (.ref a1), .val (.ref a1)] [(.int z9)])
    refine retZ X8 hx (t := .boolean) Bd.returns (by simp) (hb hby d11_55) hlk (by decide) (by decide) ?_
    show Q11n22 Z a0 a1 cs vv ww b0 b1 d0 d1 h0 n0 _ T8.heap _
    rw [e8]
    have hv' : (nar .boolean z9) = (if b0 = d0 then (if b1 = d1 then (1 : Int32) else (0 : Int32)) else (0 : Int32)) := by
      rw [hz9]
      first | rfl | ((repeat' split) <;> first | rfl | contradiction | (simp_all; done))
    have hv : (some (.int (nar .boolean z9)) : Option Value) = some (.int (if b0 = d0 then (if b1 = d1 then (1 : Int32) else (0 : Int32)) else (0 : Int32))) := congrArg (fun z => (some (.int z) : Option Value)) hv'
    exact ⟨hv, N8, rfl⟩
  show Run _ _ _ _ _ _ _ T8 (mkF m 47 #[.val (.ref a0), .val (.ref a1), .val (.ref a1)] [(.int (if b0 = d0 then (if b1 = d1 then (1 : Int32) else (0 : Int32)) else (0 : Int32)))])
  by_cases hc47 : (if b0 = d0 then (if b1 = d1 then (1 : Int32) else (0 : Int32)) else (0 : Int32)) = (0 : Int32)
  · refine go (T' := T8) (f' := (mkF m 54 #[.val (.ref a0), .val (.ref a1), .val (.ref a1)] [])) (by intro t k; exact XS.ifYes X8.here hx rfl (pc0 := 47) (pc' := 54) rfl (hb hby d11_47) rfl ((if0 _ _).trans (teq hc47).1) (by decide) (by decide) k) ?_
    refine go (T' := T8) (f' := (mkF m 55 #[.val (.ref a0), .val (.ref a1), .val (.ref a1)] [(.int (0 : Int32))])) (by intro t k; exact XS.iconst X8.here hx rfl (hb hby d11_54) k) ?_
    have ez9 : z9 = (0 : Int32) := (hz9).trans (if_pos hc47)
    subst ez9
    exact J47
  · refine go (T' := T8) (f' := (mkF m 50 #[.val (.ref a0), .val (.ref a1), .val (.ref a1)] [])) (by intro t k; exact XS.ifNo X8.here hx rfl (hb hby d11_47) rfl ((if0 _ _).trans (feq hc47).1) k) ?_
    refine go (T' := T8) (f' := (mkF m 51 #[.val (.ref a0), .val (.ref a1), .val (.ref a1)] [(.int (1 : Int32))])) (by intro t k; exact XS.iconst X8.here hx rfl (hb hby d11_50) k) ?_
    refine go (T' := T8) (f' := (mkF m 55 #[.val (.ref a0), .val (.ref a1), .val (.ref a1)] [(.int (1 : Int32))])) (by intro t k; exact XS.goto X8.here hx rfl (pc0 := 51) (pc' := 55) rfl (hb hby d11_51) (by decide) (by decide) k) ?_
    have ez9 : z9 = (1 : Int32) := (hz9).trans (if_neg hc47)
    subst ez9
    exact J47
theorem d10_0 : decode prog_24_method_4_code 0 = .ok (.aload_n 0, 1) := by decide +kernel
theorem d10_1 : decode prog_24_method_4_code 1 = .ok (.aload_n 1, 1) := by decide +kernel
theorem d10_2 : decode prog_24_method_4_code 2 = .ok (.if_acmp .ne 5, 3) := by decide +kernel
theorem d10_5 : decode prog_24_method_4_code 5 = .ok (.iconst 1, 1) := by decide +kernel
theorem d10_6 : decode prog_24_method_4_code 6 = .ok (.ireturn, 1) := by decide +kernel
theorem ef_10s (m : MethodId) (x0 : Addr) (x1 : Addr) : entryFrame m #[(.ref x0), (.ref x1)] 3 = mkF m 0 #[.val (.ref x0), .val (.ref x1), .unset] [] := by first | (simp [entryFrame, mkF, argsToLocals, Value.category]; done) | rfl
def Q10s (Z : State) (a0 : Addr) (a1 : Addr) (h0 : Heap) (n0 : Nat) (v : Option Value) (h : Heap) (L : List Loc) : Prop := v = some (.int (1 : Int32)) ∧ Fr n0 L ∧ h = h0
set_option maxRecDepth 65536 in
set_option maxHeartbeats 40000000 in
theorem rm10s (l : Launch) (Z : State) (aw : Array Value) (hw : ∀ d ∈ tables_1, d.before aw Z = true) (ws : List Jvm.Cond) (a0 : Addr) (a1 : Addr) (h0 : Heap) (n0 : Nat) (Z0 : n0 ≤ h0.size) (hs : a0 = a1) :
    MetFree l (⟨"com/example/backchain/backchain/model/Predicate", "equals", "(Ljava/lang/Object;)Z"⟩ : MethodName) (head1 (Jvm.Cond.code (⟨"com/example/backchain/backchain/model/Predicate", "equals", "(Ljava/lang/Object;)Z"⟩ : MethodName) prog_24_method_4_code 3 (some .boolean) :: ws) ({ frames := 0, cells := 0, slots := 0, locals := 0 } : Room)) (fun a U => a = #[(.ref a0), (.ref a1)] ∧ Z.Warmed39 U.vm ∧ U.heap = h0) (fun _ _ _ _ _ => True) (fun _ U o U' => ∃ v L, o = .returned v ∧ Q10s Z a0 a1 h0 n0 v U'.heap L ∧ FrameEnd U o U' L ({ frames := 0, cells := 0, slots := 0, locals := 0 } : Room).cells ({ frames := 0, cells := 0, slots := 0, locals := 0 } : Room).slots) := by
  refine MetFree.of_bodySF (plainFor_of_name pn_8) hisR ?_
  intro p e s m args below meth c s₁ Bd hml0 hP hK
  obtain ⟨rfl, hZ, hh⟩ := hP
  have hx := Bd.exec
  have hby := Bd.bytes
  have hml : c.maxLocals = 3 := hml0
  have hown : s.vm.findClass "com/example/backchain/backchain/model/Predicate" = some m.cls := findClass_of_methodNamed Bd.named
  have hnm := (name_of_methodNamed Bd.named Bd.method).1
  have hlk : meth.locks = false := BodyLoose.notSynchronized Bd
  have X0 : Stand p l e ({ frames := 0, cells := 0, slots := 0, locals := 0 } : Room) s m #[(.ref a0), (.ref a1)] below meth c s₁ [] 0 0 := Stand.of_body Bd
  have e0 : s₁.heap = h0 := by rw [← hh, Bd.state]; rfl
  have N0 := Fr.nil n0
  show Run p e s below (Q10s Z a0 a1 h0 n0) ({ frames := 0, cells := 0, slots := 0, locals := 0 } : Room).cells ({ frames := 0, cells := 0, slots := 0, locals := 0 } : Room).slots s₁ (entryFrame m #[(.ref a0), (.ref a1)] 3)
  rw [ef_10s]
  show Run _ _ _ _ _ _ _ s₁ (mkF m 0 #[.val (.ref a0), .val (.ref a1), .unset] [])
  refine go (T' := s₁) (f' := (mkF m 1 #[.val (.ref a0), .val (.ref a1), .unset] [(.ref a0)])) (by intro t k; exact XS.aloadN X0.here hx rfl (hb hby d10_0) rfl rfl k) ?_
  refine go (T' := s₁) (f' := (mkF m 2 #[.val (.ref a0), .val (.ref a1), .unset] [(.ref a1), (.ref a0)])) (by intro t k; exact XS.aloadN X0.here hx rfl (hb hby d10_1) rfl rfl k) ?_
  refine go (T' := s₁) (f' := (mkF m 5 #[.val (.ref a0), .val (.ref a1), .unset] [])) (by intro t k; exact Jvm.RoadKit.acmp (g := (mkF m 2 #[.val (.ref a0), .val (.ref a1), .unset] [(.ref a1), (.ref a0)])) X0 hx rfl rfl rfl (pc0 := 2) (pc' := 5) (same := true) rfl (hb hby d10_2) rfl (decide_eq_true (congrArg Value.ref (hs : a0 = a1))) (by decide) (by decide) k) ?_
  refine go (T' := s₁) (f' := (mkF m 6 #[.val (.ref a0), .val (.ref a1), .unset] [(.int (1 : Int32))])) (by intro t k; exact XS.iconst X0.here hx rfl (hb hby d10_5) k) ?_
  refine retZ X0 hx (t := .boolean) Bd.returns (by simp) (hb hby d10_6) hlk (by decide) (by decide) ?_
  show Q10s Z a0 a1 h0 n0 _ s₁.heap _
  rw [e0]
  have hv' : (nar .boolean (1 : Int32)) = (1 : Int32) := by
    rfl
  have hv : (some (.int (nar .boolean (1 : Int32))) : Option Value) = some (.int (1 : Int32)) := congrArg (fun z => (some (.int z) : Option Value)) hv'
  exact ⟨hv, N0, rfl⟩
theorem d10_7 : decode prog_24_method_4_code 7 = .ok (.aload_n 1, 1) := by decide +kernel
theorem d10_8 : decode prog_24_method_4_code 8 = .ok (.instanceof 25, 3) := by decide +kernel
theorem d10_11 : decode prog_24_method_4_code 11 = .ok (.ifCond .ne 5, 3) := by decide +kernel
theorem d10_14 : decode prog_24_method_4_code 14 = .ok (.iconst 0, 1) := by decide +kernel
theorem d10_15 : decode prog_24_method_4_code 15 = .ok (.ireturn, 1) := by decide +kernel
theorem ef_10z (m : MethodId) (x0 : Addr) : entryFrame m #[(.ref x0), .null] 3 = mkF m 0 #[.val (.ref x0), .val .null, .unset] [] := by first | (simp [entryFrame, mkF, argsToLocals, Value.category]; done) | rfl
def Q10z (Z : State) (a0 : Addr) (h0 : Heap) (n0 : Nat) (v : Option Value) (h : Heap) (L : List Loc) : Prop := v = some (.int (0 : Int32)) ∧ Fr n0 L ∧ h = h0
set_option maxRecDepth 65536 in
set_option maxHeartbeats 40000000 in
theorem rm10z (l : Launch) (Z : State) (aw : Array Value) (hw : ∀ d ∈ tables_1, d.before aw Z = true) (ws : List Jvm.Cond) (a0 : Addr) (h0 : Heap) (n0 : Nat) (Z0 : n0 ≤ h0.size) :
    MetFree l (⟨"com/example/backchain/backchain/model/Predicate", "equals", "(Ljava/lang/Object;)Z"⟩ : MethodName) (head1 (Jvm.Cond.code (⟨"com/example/backchain/backchain/model/Predicate", "equals", "(Ljava/lang/Object;)Z"⟩ : MethodName) prog_24_method_4_code 3 (some .boolean) :: ws) ({ frames := 0, cells := 0, slots := 0, locals := 0 } : Room)) (fun a U => a = #[(.ref a0), .null] ∧ Z.Warmed39 U.vm ∧ U.heap = h0) (fun _ _ _ _ _ => True) (fun _ U o U' => ∃ v L, o = .returned v ∧ Q10z Z a0 h0 n0 v U'.heap L ∧ FrameEnd U o U' L ({ frames := 0, cells := 0, slots := 0, locals := 0 } : Room).cells ({ frames := 0, cells := 0, slots := 0, locals := 0 } : Room).slots) := by
  refine MetFree.of_bodySF (plainFor_of_name pn_8) hisR ?_
  intro p e s m args below meth c s₁ Bd hml0 hP hK
  obtain ⟨rfl, hZ, hh⟩ := hP
  have hx := Bd.exec
  have hby := Bd.bytes
  have hml : c.maxLocals = 3 := hml0
  have hown : s.vm.findClass "com/example/backchain/backchain/model/Predicate" = some m.cls := findClass_of_methodNamed Bd.named
  have hnm := (name_of_methodNamed Bd.named Bd.method).1
  have hlk : meth.locks = false := BodyLoose.notSynchronized Bd
  have X0 : Stand p l e ({ frames := 0, cells := 0, slots := 0, locals := 0 } : Room) s m #[(.ref a0), .null] below meth c s₁ [] 0 0 := Stand.of_body Bd
  have e0 : s₁.heap = h0 := by rw [← hh, Bd.state]; rfl
  have N0 := Fr.nil n0
  show Run p e s below (Q10z Z a0 h0 n0) ({ frames := 0, cells := 0, slots := 0, locals := 0 } : Room).cells ({ frames := 0, cells := 0, slots := 0, locals := 0 } : Room).slots s₁ (entryFrame m #[(.ref a0), .null] 3)
  rw [ef_10z]
  show Run _ _ _ _ _ _ _ s₁ (mkF m 0 #[.val (.ref a0), .val .null, .unset] [])
  refine go (T' := s₁) (f' := (mkF m 1 #[.val (.ref a0), .val .null, .unset] [(.ref a0)])) (by intro t k; exact XS.aloadN X0.here hx rfl (hb hby d10_0) rfl rfl k) ?_
  refine go (T' := s₁) (f' := (mkF m 2 #[.val (.ref a0), .val .null, .unset] [.null, (.ref a0)])) (by intro t k; exact XS.aloadN X0.here hx rfl (hb hby d10_1) rfl rfl k) ?_
  refine go (T' := s₁) (f' := (mkF m 7 #[.val (.ref a0), .val .null, .unset] [])) (by intro t k; exact Jvm.RoadKit.acmp (g := (mkF m 2 #[.val (.ref a0), .val .null, .unset] [.null, (.ref a0)])) X0 hx rfl rfl rfl (pc0 := 2) (pc' := 7) (same := false) rfl (hb hby d10_2) rfl (decide_eq_false nofun) (by decide) (by decide) k) ?_
  refine go (T' := s₁) (f' := (mkF m 8 #[.val (.ref a0), .val .null, .unset] [.null])) (by intro t k; exact XS.aloadN X0.here hx rfl (hb hby d10_7) rfl rfl k) ?_
  refine go (fun _ k => X0.instanceofNull hx (g := (mkF m 8 #[.val (.ref a0), .val .null, .unset] [.null])) rfl rfl (hb hby d10_8) _ k) ?_
  show Run _ _ _ _ _ _ _ s₁ (mkF m 11 #[.val (.ref a0), .val .null, .unset] [(.int (0 : Int32))])
  refine go (T' := s₁) (f' := (mkF m 14 #[.val (.ref a0), .val .null, .unset] [])) (by intro t k; exact XS.ifNo X0.here hx rfl (hb hby d10_11) rfl ((if0 _ _).trans (teq (rfl : (0 : Int32) = (0 : Int32))).2) k) ?_
  refine go (T' := s₁) (f' := (mkF m 15 #[.val (.ref a0), .val .null, .unset] [(.int (0 : Int32))])) (by intro t k; exact XS.iconst X0.here hx rfl (hb hby d10_14) k) ?_
  refine retZ X0 hx (t := .boolean) Bd.returns (by simp) (hb hby d10_15) hlk (by decide) (by decide) ?_
  show Q10z Z a0 h0 n0 _ s₁.heap _
  rw [e0]
  have hv' : (nar .boolean (0 : Int32)) = (0 : Int32) := by
    rfl
  have hv : (some (.int (nar .boolean (0 : Int32))) : Option Value) = some (.int (0 : Int32)) := congrArg (fun z => (some (.int z) : Option Value)) hv'
  exact ⟨hv, N0, rfl⟩
theorem ef_10t (m : MethodId) (x0 : Addr) (x1 : Addr) : entryFrame m #[(.ref x0), (.ref x1)] 3 = mkF m 0 #[.val (.ref x0), .val (.ref x1), .unset] [] := by first | (simp [entryFrame, mkF, argsToLocals, Value.category]; done) | rfl
def Q10t (Z : State) (a0 : Addr) (a1 : Addr) (h0 : Heap) (n0 : Nat) (v : Option Value) (h : Heap) (L : List Loc) : Prop := v = some (.int (0 : Int32)) ∧ Fr n0 L ∧ h = h0
set_option maxRecDepth 65536 in
set_option maxHeartbeats 40000000 in
theorem rm10t (l : Launch) (Z : State) (aw : Array Value) (hw : ∀ d ∈ tables_1, d.before aw Z = true) (ws : List Jvm.Cond) (a0 : Addr) (a1 : Addr) (h0 : Heap) (n0 : Nat) (Z0 : n0 ≤ h0.size) (E_a1 : Exa Z h0 a1 "java/lang/String") (hne : ¬ (a0 = a1)) :
    MetFree l (⟨"com/example/backchain/backchain/model/Predicate", "equals", "(Ljava/lang/Object;)Z"⟩ : MethodName) (head1 (Jvm.Cond.code (⟨"com/example/backchain/backchain/model/Predicate", "equals", "(Ljava/lang/Object;)Z"⟩ : MethodName) prog_24_method_4_code 3 (some .boolean) :: ws) ({ frames := 0, cells := 0, slots := 0, locals := 0 } : Room)) (fun a U => a = #[(.ref a0), (.ref a1)] ∧ Z.Warmed39 U.vm ∧ U.heap = h0) (fun _ _ _ _ _ => True) (fun _ U o U' => ∃ v L, o = .returned v ∧ Q10t Z a0 a1 h0 n0 v U'.heap L ∧ FrameEnd U o U' L ({ frames := 0, cells := 0, slots := 0, locals := 0 } : Room).cells ({ frames := 0, cells := 0, slots := 0, locals := 0 } : Room).slots) := by
  refine MetFree.of_bodySF (plainFor_of_name pn_8) hisR ?_
  intro p e s m args below meth c s₁ Bd hml0 hP hK
  obtain ⟨rfl, hZ, hh⟩ := hP
  have hx := Bd.exec
  have hby := Bd.bytes
  have hml : c.maxLocals = 3 := hml0
  have hown : s.vm.findClass "com/example/backchain/backchain/model/Predicate" = some m.cls := findClass_of_methodNamed Bd.named
  have hnm := (name_of_methodNamed Bd.named Bd.method).1
  have hlk : meth.locks = false := BodyLoose.notSynchronized Bd
  have X0 : Stand p l e ({ frames := 0, cells := 0, slots := 0, locals := 0 } : Room) s m #[(.ref a0), (.ref a1)] below meth c s₁ [] 0 0 := Stand.of_body Bd
  have e0 : s₁.heap = h0 := by rw [← hh, Bd.state]; rfl
  have N0 := Fr.nil n0
  show Run p e s below (Q10t Z a0 a1 h0 n0) ({ frames := 0, cells := 0, slots := 0, locals := 0 } : Room).cells ({ frames := 0, cells := 0, slots := 0, locals := 0 } : Room).slots s₁ (entryFrame m #[(.ref a0), (.ref a1)] 3)
  rw [ef_10t]
  show Run _ _ _ _ _ _ _ s₁ (mkF m 0 #[.val (.ref a0), .val (.ref a1), .unset] [])
  refine go (T' := s₁) (f' := (mkF m 1 #[.val (.ref a0), .val (.ref a1), .unset] [(.ref a0)])) (by intro t k; exact XS.aloadN X0.here hx rfl (hb hby d10_0) rfl rfl k) ?_
  refine go (T' := s₁) (f' := (mkF m 2 #[.val (.ref a0), .val (.ref a1), .unset] [(.ref a1), (.ref a0)])) (by intro t k; exact XS.aloadN X0.here hx rfl (hb hby d10_1) rfl rfl k) ?_
  refine go (T' := s₁) (f' := (mkF m 7 #[.val (.ref a0), .val (.ref a1), .unset] [])) (by intro t k; exact Jvm.RoadKit.acmp (g := (mkF m 2 #[.val (.ref a0), .val (.ref a1), .unset] [(.ref a1), (.ref a0)])) X0 hx rfl rfl rfl (pc0 := 2) (pc' := 7) (same := false) rfl (hb hby d10_2) rfl (decide_eq_false fun q => (hne : ¬ (a0 = a1)) (Value.ref.inj q)) (by decide) (by decide) k) ?_
  refine go (T' := s₁) (f' := (mkF m 8 #[.val (.ref a0), .val (.ref a1), .unset] [(.ref a1)])) (by intro t k; exact XS.aloadN X0.here hx rfl (hb hby d10_7) rfl rfl k) ?_
  obtain ⟨T1, X1, e1, st1⟩ := instNo X0 hx hZ hown (hw _ (List.mem_of_getElem? (i := 56) rfl)) e0 E_a1 (NS.noI (hw _ (List.mem_of_getElem? (i := 68) rfl)) (hw _ (List.mem_of_getElem? (i := 36) rfl)) (NS.step (hw _ (List.mem_of_getElem? (i := 68) rfl)) (NS.rootI (hw _ (List.mem_of_getElem? (i := 69) rfl)) (hw _ (List.mem_of_getElem? (i := 36) rfl)) (by decide)) (by decide)) (by decide)) (g := (mkF m 8 #[.val (.ref a0), .val (.ref a1), .unset] [(.ref a1)])) rfl rfl (hb hby d10_8)
  refine go st1 ?_
  show Run _ _ _ _ _ _ _ T1 (mkF m 11 #[.val (.ref a0), .val (.ref a1), .unset] [(.int (0 : Int32))])
  refine go (T' := T1) (f' := (mkF m 14 #[.val (.ref a0), .val (.ref a1), .unset] [])) (by intro t k; exact XS.ifNo X1.here hx rfl (hb hby d10_11) rfl ((if0 _ _).trans (teq (rfl : (0 : Int32) = (0 : Int32))).2) k) ?_
  refine go (T' := T1) (f' := (mkF m 15 #[.val (.ref a0), .val (.ref a1), .unset] [(.int (0 : Int32))])) (by intro t k; exact XS.iconst X1.here hx rfl (hb hby d10_14) k) ?_
  refine retZ X1 hx (t := .boolean) Bd.returns (by simp) (hb hby d10_15) hlk (by decide) (by decide) ?_
  show Q10t Z a0 a1 h0 n0 _ T1.heap _
  rw [e1]
  have hv' : (nar .boolean (0 : Int32)) = (0 : Int32) := by
    rfl
  have hv : (some (.int (nar .boolean (0 : Int32))) : Option Value) = some (.int (0 : Int32)) := congrArg (fun z => (some (.int z) : Option Value)) hv'
  exact ⟨hv, N0, rfl⟩
theorem d10_16 : decode prog_24_method_4_code 16 = .ok (.aload_n 1, 1) := by decide +kernel
theorem d10_17 : decode prog_24_method_4_code 17 = .ok (.checkcast 25, 3) := by decide +kernel
theorem d10_20 : decode prog_24_method_4_code 20 = .ok (.astore_n 2, 1) := by decide +kernel
theorem d10_21 : decode prog_24_method_4_code 21 = .ok (.aload_n 0, 1) := by decide +kernel
theorem d10_22 : decode prog_24_method_4_code 22 = .ok (.getfield 30, 3) := by decide +kernel
theorem d10_25 : decode prog_24_method_4_code 25 = .ok (.aload_n 2, 1) := by decide +kernel
theorem d10_26 : decode prog_24_method_4_code 26 = .ok (.getfield 30, 3) := by decide +kernel
theorem d10_29 : decode prog_24_method_4_code 29 = .ok (.if_icmp .ne 21, 3) := by decide +kernel
theorem d10_32 : decode prog_24_method_4_code 32 = .ok (.aload_n 0, 1) := by decide +kernel
theorem d10_33 : decode prog_24_method_4_code 33 = .ok (.getfield 24, 3) := by decide +kernel
theorem d10_36 : decode prog_24_method_4_code 36 = .ok (.aload_n 2, 1) := by decide +kernel
theorem d10_37 : decode prog_24_method_4_code 37 = .ok (.getfield 24, 3) := by decide +kernel
theorem d10_40 : decode prog_24_method_4_code 40 = .ok (.invokevirtual 34, 3) := by decide +kernel
theorem d10_43 : decode prog_24_method_4_code 43 = .ok (.ifCond .eq 7, 3) := by decide +kernel
theorem d10_50 : decode prog_24_method_4_code 50 = .ok (.iconst 0, 1) := by decide +kernel
theorem d10_46 : decode prog_24_method_4_code 46 = .ok (.iconst 1, 1) := by decide +kernel
theorem d10_47 : decode prog_24_method_4_code 47 = .ok (.goto 4, 3) := by decide +kernel
theorem d10_51 : decode prog_24_method_4_code 51 = .ok (.ireturn, 1) := by decide +kernel
theorem pd_28Ljava2flang2fObject3b29Z : parseMethodDescriptor "(Ljava/lang/Object;)Z" = some ⟨[(.object "java/lang/Object")], some .boolean⟩ := by decide +kernel
theorem ef_10n11 (m : MethodId) (x0 : Addr) (x1 : Addr) : entryFrame m #[(.ref x0), (.ref x1)] 3 = mkF m 0 #[.val (.ref x0), .val (.ref x1), .unset] [] := by first | (simp [entryFrame, mkF, argsToLocals, Value.category]; done) | rfl
def Q10n11 (Z : State) (a0 : Addr) (a1 : Addr) (cs x y : Int32) (s1 s2 vv ww : Addr) (b0 d0 : Int32) (h0 : Heap) (n0 : Nat) (v : Option Value) (h : Heap) (L : List Loc) : Prop := v = some (.int (if x = y then (if b0 = d0 then (1 : Int32) else (0 : Int32)) else (0 : Int32))) ∧ Fr n0 L ∧ h = h0
set_option maxRecDepth 65536 in
set_option maxHeartbeats 40000000 in
theorem rm10n11 (l : Launch) (Z : State) (aw : Array Value) (hw : ∀ d ∈ tables_1, d.before aw Z = true) (ws : List Jvm.Cond) (a0 : Addr) (a1 : Addr) (cs x y : Int32) (s1 s2 vv ww : Addr) (b0 d0 : Int32) (h0 : Heap) (n0 : Nat) (Z0 : n0 ≤ h0.size) (O0 : Old Z n0 h0) (S_cs : Sta Z Z.heap "java/lang/String" "COMPACT_STRINGS" "Z" (.int cs)) (hcs : ¬ (cs = (0 : Int32))) (E_a0 : Exa Z h0 a0 "com/example/backchain/backchain/model/Predicate") (Fn_a0 : Fld Z h0 a0 "com/example/backchain/backchain/model/Predicate" "name" "Ljava/lang/String;" (.ref s1)) (Fa_a0 : Fld Z h0 a0 "com/example/backchain/backchain/model/Predicate" "arity" "I" (.int x)) (E_a1 : Exa Z h0 a1 "com/example/backchain/backchain/model/Predicate") (Fn_a1 : Fld Z h0 a1 "com/example/backchain/backchain/model/Predicate" "name" "Ljava/lang/String;" (.ref s2)) (Fa_a1 : Fld Z h0 a1 "com/example/backchain/backchain/model/Predicate" "arity" "I" (.int y)) (E_s1 : Exa Z h0 s1 "java/lang/String") (Fc_s1 : Fld Z h0 s1 "java/lang/String" "coder" "B" (.int (0 : Int32))) (Fv_s1 : Fld Z h0 s1 "java/lang/String" "value" "[B" (.ref vv)) (A_vv : Ary Z h0 vv .byte [(.int b0)]) (E_s2 : Exa Z h0 s2 "java/lang/String") (Fc_s2 : Fld Z h0 s2 "java/lang/String" "coder" "B" (.int (0 : Int32))) (Fv_s2 : Fld Z h0 s2 "java/lang/String" "value" "[B" (.ref ww)) (A_ww : Ary Z h0 ww .byte [(.int d0)]) (hne : ¬ (a0 = a1)) (hn12 : s1 ≠ s2) :
    MetFree l (⟨"com/example/backchain/backchain/model/Predicate", "equals", "(Ljava/lang/Object;)Z"⟩ : MethodName) (head1 (Jvm.Cond.code (⟨"com/example/backchain/backchain/model/Predicate", "equals", "(Ljava/lang/Object;)Z"⟩ : MethodName) prog_24_method_4_code 3 (some .boolean) :: ws) ({ frames := 2, cells := 0, slots := 0, locals := 28 } : Room)) (fun a U => a = #[(.ref a0), (.ref a1)] ∧ Z.Warmed39 U.vm ∧ U.heap = h0) (fun _ _ _ _ _ => True) (fun _ U o U' => ∃ v L, o = .returned v ∧ Q10n11 Z a0 a1 cs x y s1 s2 vv ww b0 d0 h0 n0 v U'.heap L ∧ FrameEnd U o U' L ({ frames := 2, cells := 0, slots := 0, locals := 28 } : Room).cells ({ frames := 2, cells := 0, slots := 0, locals := 28 } : Room).slots) := by
  refine MetFree.of_bodySF (plainFor_of_name pn_8) hisR ?_
  intro p e s m args below meth c s₁ Bd hml0 hP hK
  obtain ⟨rfl, hZ, hh⟩ := hP
  have hx := Bd.exec
  have hby := Bd.bytes
  have hml : c.maxLocals = 3 := hml0
  have hown : s.vm.findClass "com/example/backchain/backchain/model/Predicate" = some m.cls := findClass_of_methodNamed Bd.named
  have hnm := (name_of_methodNamed Bd.named Bd.method).1
  have hlk : meth.locks = false := BodyLoose.notSynchronized Bd
  have X0 : Stand p l e ({ frames := 2, cells := 0, slots := 0, locals := 28 } : Room) s m #[(.ref a0), (.ref a1)] below meth c s₁ [] 0 0 := Stand.of_body Bd
  have e0 : s₁.heap = h0 := by rw [← hh, Bd.state]; rfl
  have N0 := Fr.nil n0
  show Run p e s below (Q10n11 Z a0 a1 cs x y s1 s2 vv ww b0 d0 h0 n0) ({ frames := 2, cells := 0, slots := 0, locals := 28 } : Room).cells ({ frames := 2, cells := 0, slots := 0, locals := 28 } : Room).slots s₁ (entryFrame m #[(.ref a0), (.ref a1)] 3)
  rw [ef_10n11]
  show Run _ _ _ _ _ _ _ s₁ (mkF m 0 #[.val (.ref a0), .val (.ref a1), .unset] [])
  refine go (T' := s₁) (f' := (mkF m 1 #[.val (.ref a0), .val (.ref a1), .unset] [(.ref a0)])) (by intro t k; exact XS.aloadN X0.here hx rfl (hb hby d10_0) rfl rfl k) ?_
  refine go (T' := s₁) (f' := (mkF m 2 #[.val (.ref a0), .val (.ref a1), .unset] [(.ref a1), (.ref a0)])) (by intro t k; exact XS.aloadN X0.here hx rfl (hb hby d10_1) rfl rfl k) ?_
  refine go (T' := s₁) (f' := (mkF m 7 #[.val (.ref a0), .val (.ref a1), .unset] [])) (by intro t k; exact Jvm.RoadKit.acmp (g := (mkF m 2 #[.val (.ref a0), .val (.ref a1), .unset] [(.ref a1), (.ref a0)])) X0 hx rfl rfl rfl (pc0 := 2) (pc' := 7) (same := false) rfl (hb hby d10_2) rfl (decide_eq_false fun q => (hne : ¬ (a0 = a1)) (Value.ref.inj q)) (by decide) (by decide) k) ?_
  refine go (T' := s₁) (f' := (mkF m 8 #[.val (.ref a0), .val (.ref a1), .unset] [(.ref a1)])) (by intro t k; exact XS.aloadN X0.here hx rfl (hb hby d10_7) rfl rfl k) ?_
  obtain ⟨T1, X1, e1, st1⟩ := instY X0 hx hZ hown (hw _ (List.mem_of_getElem? (i := 56) rfl)) e0 (Ins.self E_a1) (g := (mkF m 8 #[.val (.ref a0), .val (.ref a1), .unset] [(.ref a1)])) rfl rfl (hb hby d10_8)
  refine go st1 ?_
  show Run _ _ _ _ _ _ _ T1 (mkF m 11 #[.val (.ref a0), .val (.ref a1), .unset] [(.int (1 : Int32))])
  refine go (T' := T1) (f' := (mkF m 16 #[.val (.ref a0), .val (.ref a1), .unset] [])) (by intro t k; exact XS.ifYes X1.here hx rfl (pc0 := 11) (pc' := 16) rfl (hb hby d10_11) rfl ((if0 _ _).trans (feq (by decide : ¬ ((1 : Int32) = (0 : Int32)))).2) (by decide) (by decide) k) ?_
  refine go (T' := T1) (f' := (mkF m 17 #[.val (.ref a0), .val (.ref a1), .unset] [(.ref a1)])) (by intro t k; exact XS.aloadN X1.here hx rfl (hb hby d10_16) rfl rfl k) ?_
  obtain ⟨T2, X2, e2, st2⟩ := castY X1 hx hZ hown (hw _ (List.mem_of_getElem? (i := 56) rfl)) e1 (Ins.self E_a1) (g := (mkF m 17 #[.val (.ref a0), .val (.ref a1), .unset] [(.ref a1)])) rfl rfl (hb hby d10_17)
  refine go st2 ?_
  show Run _ _ _ _ _ _ _ T2 (mkF m 20 #[.val (.ref a0), .val (.ref a1), .unset] [(.ref a1)])
  refine go (T' := T2) (f' := (mkF m 21 #[.val (.ref a0), .val (.ref a1), .val (.ref a1)] [])) (by intro t k; exact XS.astoreN X2.here hx rfl (hb hby d10_20) rfl rfl (l' := #[.val (.ref a0), .val (.ref a1), .val (.ref a1)]) rfl k) ?_
  refine go (T' := T2) (f' := (mkF m 22 #[.val (.ref a0), .val (.ref a1), .val (.ref a1)] [(.ref a0)])) (by intro t k; exact XS.aloadN X2.here hx rfl (hb hby d10_21) rfl rfl k) ?_
  obtain ⟨T3, X3, e3, st3⟩ := getF X2 hx hZ hown (host := "") (Or.inl (hw _ (List.mem_of_getElem? (i := 49) rfl))) Via.refl e2 Fa_a0 (g := (mkF m 22 #[.val (.ref a0), .val (.ref a1), .val (.ref a1)] [(.ref a0)])) rfl rfl (hb hby d10_22)
  refine go st3 ?_
  show Run _ _ _ _ _ _ _ T3 (mkF m 25 #[.val (.ref a0), .val (.ref a1), .val (.ref a1)] [(.int x)])
  refine go (T' := T3) (f' := (mkF m 26 #[.val (.ref a0), .val (.ref a1), .val (.ref a1)] [(.ref a1), (.int x)])) (by intro t k; exact XS.aloadN X3.here hx rfl (hb hby d10_25) rfl rfl k) ?_
  obtain ⟨T4, X4, e4, st4⟩ := getF X3 hx hZ hown (host := "") (Or.inl (hw _ (List.mem_of_getElem? (i := 49) rfl))) Via.refl e3 Fa_a1 (g := (mkF m 26 #[.val (.ref a0), .val (.ref a1), .val (.ref a1)] [(.ref a1), (.int x)])) rfl rfl (hb hby d10_26)
  refine go st4 ?_
  show Run _ _ _ _ _ _ _ T4 (mkF m 29 #[.val (.ref a0), .val (.ref a1), .val (.ref a1)] [(.int y), (.int x)])
  by_cases hc29 : x = y
  · refine go (T' := T4) (f' := (mkF m 32 #[.val (.ref a0), .val (.ref a1), .val (.ref a1)] [])) (by intro t k; exact XS.icmpNo X4.here hx rfl (hb hby d10_29) rfl (teq hc29).2 k) ?_
    refine go (T' := T4) (f' := (mkF m 33 #[.val (.ref a0), .val (.ref a1), .val (.ref a1)] [(.ref a0)])) (by intro t k; exact XS.aloadN X4.here hx rfl (hb hby d10_32) rfl rfl k) ?_
    obtain ⟨T5, X5, e5, st5⟩ := getF X4 hx hZ hown (host := "") (Or.inl (hw _ (List.mem_of_getElem? (i := 47) rfl))) Via.refl e4 Fn_a0 (g := (mkF m 33 #[.val (.ref a0), .val (.ref a1), .val (.ref a1)] [(.ref a0)])) rfl rfl (hb hby d10_33)
    refine go st5 ?_
    show Run _ _ _ _ _ _ _ T5 (mkF m 36 #[.val (.ref a0), .val (.ref a1), .val (.ref a1)] [(.ref s1)])
    refine go (T' := T5) (f' := (mkF m 37 #[.val (.ref a0), .val (.ref a1), .val (.ref a1)] [(.ref a1), (.ref s1)])) (by intro t k; exact XS.aloadN X5.here hx rfl (hb hby d10_36) rfl rfl k) ?_
    obtain ⟨T6, X6, e6, st6⟩ := getF X5 hx hZ hown (host := "") (Or.inl (hw _ (List.mem_of_getElem? (i := 47) rfl))) Via.refl e5 Fn_a1 (g := (mkF m 37 #[.val (.ref a0), .val (.ref a1), .val (.ref a1)] [(.ref a1), (.ref s1)])) rfl rfl (hb hby d10_37)
    refine go st6 ?_
    show Run _ _ _ _ _ _ _ T6 (mkF m 40 #[.val (.ref a0), .val (.ref a1), .val (.ref a1)] [(.ref s2), (.ref s1)])
    obtain ⟨cq7, kq7, q7a, q7b, q7c⟩ := isOf hZ e6 E_s1
    obtain ⟨_, _, ⟨T7, Lz7, kz7, nz7⟩, -, X7, ⟨Lc7, hQ7, lz7, yz7, zz7⟩, st7⟩ := X6.virtualBack hx (y := (⟨"java/lang/String", "equals", "(Ljava/lang/Object;)Z"⟩ : MethodName)) (z := (⟨"java/lang/String", "equals", "(Ljava/lang/Object;)Z"⟩ : MethodName)) hown (mvT hZ (hw _ (List.mem_of_getElem? (i := 58) rfl))) (mvT hZ (hw _ (List.mem_of_getElem? (i := 59) rfl))) (notFace_of_selects (args := #[]) (mvT hZ (hw _ (List.mem_of_getElem? (i := 61) rfl)))) (mvT hZ (hw _ (List.mem_of_getElem? (i := 61) rfl))) (mvT hZ (hw _ (List.mem_of_getElem? (i := 60) rfl))) (by decide) (backOf (W := 0) (rm11n11 l Z aw hw [] s1 s2 cs vv ww b0 d0 h0 n0 Z0 O0 S_cs hcs E_s1 Fc_s1 Fv_s1 A_vv E_s2 Fc_s2 Fv_s2 A_ww hn12) hZ (hw _ (List.mem_of_getElem? (i := 62) rfl)) (hw _ (List.mem_of_getElem? (i := 7) rfl)) (by decide) (by decide)) q7a q7c (g := (mkF m 40 #[.val (.ref a0), .val (.ref a1), .val (.ref a1)] [(.ref s2), (.ref s1)])) rfl (by rw [hml]; rfl) (Steps.refl _) (argsL := [(.ref s2)]) (rest := []) (lenOf pd_28Ljava2flang2fObject3b29Z rfl) rfl (by show 2 * 0 + _ ≤ _; exact Nat.le_of_eq rfl) (hb hby d10_40) (fun _ _ => ⟨rfl, e6, (by decide : 0 + 0 ≤ _), (by decide : 0 + 0 ≤ _)⟩)
    dsimp only [Pt.U, Pt.locs, Pt.cells, Pt.slots] at X7 lz7 yz7 zz7 st7 hQ7
    subst lz7 yz7 zz7
    obtain ⟨rfl, N7q, e7⟩ := hQ7
    have N7 := Fr.app N0 N7q
    refine go (fun _ k => st7.trans k) ?_
    show Run _ _ _ _ _ _ _ T7 (mkF m 43 #[.val (.ref a0), .val (.ref a1), .val (.ref a1)] [(.int (if b0 = d0 then (1 : Int32) else (0 : Int32)))])
    obtain ⟨z8, hz8⟩ : ∃ z : Int32, z = (if (if b0 = d0 then (1 : Int32) else (0 : Int32)) = (0 : Int32) then (0 : Int32) else (1 : Int32)) := ⟨_, rfl⟩
    have J43 : Run p e s below (Q10n11 Z a0 a1 cs x y s1 s2 vv ww b0 d0 h0 n0) ({ frames := 2, cells := 0, slots := 0, locals := 28 } : Room).cells ({ frames := 2, cells := 0, slots := 0, locals := 28 } : Room).slots T7 (mkF m 51 #[.val (.ref a0), .val (.ref a1), .val (.ref a1)] [(.int z8)]) := by
      show Run _ _ _ _ _ _ _ T7 (mkF m 51 #[.val (.ref a0), .val (.ref a1), .val (.ref a1)] [(.int z8)])
      refine retZ X7 hx (t := .boolean) Bd.returns (by simp) (hb hby d10_51) hlk (by decide) (by decide) ?_
      show Q10n11 Z a0 a1 cs x y s1 s2 vv ww b0 d0 h0 n0 _ T7.heap _
      rw [e7]
      have hv' : (nar .boolean z8) = (if x = y then (if b0 = d0 then (1 : Int32) else (0 : Int32)) else (0 : Int32)) := by
        rw [hz8]
        first | rfl | ((repeat' split) <;> first | rfl | contradiction | (simp_all; done))
      have hv : (some (.int (nar .boolean z8)) : Option Value) = some (.int (if x = y then (if b0 = d0 then (1 : Int32) else (0 : Int32)) else (0 : Int32))) := congrArg (fun z => (some (.int z) : Option Value)) hv'
      exact ⟨hv, N7, rfl⟩
    show Run _ _ _ _ _ _ _ T7 (mkF m 43 #[.val (.ref a0), .val (.ref a1), .val (.ref a1)] [(.int (if b0 = d0 then (1 : Int32) else (0 : Int32)))])
    by_cases hc43 : (if b0 = d0 then (1 : Int32) else (0 : Int32)) = (0 : Int32)
    · refine go (T' := T7) (f' := (mkF m 50 #[.val (.ref a0), .val (.ref a1), .val (.ref a1)] [])) (by intro t k; exact XS.ifYes X7.here hx rfl (pc0 := 43) (pc' := 50) rfl (hb hby d10_43) rfl ((if0 _ _).trans (teq hc43).1) (by decide) (by decide) k) ?_
      refine go (T' := T7) (f' := (mkF m 51 #[.val (.ref a0), .val (.ref a1), .val (.ref a1)] [(.int (0 : Int32))])) (by intro t k; exact XS.iconst X7.here hx rfl (hb hby d10_50) k) ?_
      have ez8 : z8 = (0 : Int32) := (hz8).trans (if_pos hc43)
      subst ez8
      exact J43
    · refine go (T' := T7) (f' := (mkF m 46 #[.val (.ref a0), .val (.ref a1), .val (.ref a1)] [])) (by intro t k; exact XS.ifNo X7.here hx rfl (hb hby d10_43) rfl ((if0 _ _).trans (feq hc43).1) k) ?_
      refine go (T' := T7) (f' := (mkF m 47 #[.val (.ref a0), .val (.ref a1), .val (.ref a1)] [(.int (1 : Int32))])) (by intro t k; exact XS.iconst X7.here hx rfl (hb hby d10_46) k) ?_
      refine go (T' := T7) (f' := (mkF m 51 #[.val (.ref a0), .val (.ref a1), .val (.ref a1)] [(.int (1 : Int32))])) (by intro t k; exact XS.goto X7.here hx rfl (pc0 := 47) (pc' := 51) rfl (hb hby d10_47) (by decide) (by decide) k) ?_
      have ez8 : z8 = (1 : Int32) := (hz8).trans (if_neg hc43)
      subst ez8
      exact J43
  · refine go (T' := T4) (f' := (mkF m 50 #[.val (.ref a0), .val (.ref a1), .val (.ref a1)] [])) (by intro t k; exact XS.icmpYes X4.here hx rfl (pc0 := 29) (pc' := 50) rfl (hb hby d10_29) rfl (feq hc29).2 (by decide) (by decide) k) ?_
    refine go (T' := T4) (f' := (mkF m 51 #[.val (.ref a0), .val (.ref a1), .val (.ref a1)] [(.int (0 : Int32))])) (by intro t k; exact XS.iconst X4.here hx rfl (hb hby d10_50) k) ?_
    refine retZ X4 hx (t := .boolean) Bd.returns (by simp) (hb hby d10_51) hlk (by decide) (by decide) ?_
    show Q10n11 Z a0 a1 cs x y s1 s2 vv ww b0 d0 h0 n0 _ T4.heap _
    rw [e4]
    have hv' : (nar .boolean (0 : Int32)) = (if x = y then (if b0 = d0 then (1 : Int32) else (0 : Int32)) else (0 : Int32)) := by
      first | rfl | ((repeat' split) <;> first | rfl | contradiction | (simp_all; done))
    have hv : (some (.int (nar .boolean (0 : Int32))) : Option Value) = some (.int (if x = y then (if b0 = d0 then (1 : Int32) else (0 : Int32)) else (0 : Int32))) := congrArg (fun z => (some (.int z) : Option Value)) hv'
    exact ⟨hv, N0, rfl⟩
theorem ef_10n12 (m : MethodId) (x0 : Addr) (x1 : Addr) : entryFrame m #[(.ref x0), (.ref x1)] 3 = mkF m 0 #[.val (.ref x0), .val (.ref x1), .unset] [] := by first | (simp [entryFrame, mkF, argsToLocals, Value.category]; done) | rfl
def Q10n12 (Z : State) (a0 : Addr) (a1 : Addr) (cs x y : Int32) (s1 s2 vv ww : Addr) (b0 d0 d1 : Int32) (h0 : Heap) (n0 : Nat) (v : Option Value) (h : Heap) (L : List Loc) : Prop := v = some (.int (0 : Int32)) ∧ Fr n0 L ∧ h = h0
set_option maxRecDepth 65536 in
set_option maxHeartbeats 40000000 in
theorem rm10n12 (l : Launch) (Z : State) (aw : Array Value) (hw : ∀ d ∈ tables_1, d.before aw Z = true) (ws : List Jvm.Cond) (a0 : Addr) (a1 : Addr) (cs x y : Int32) (s1 s2 vv ww : Addr) (b0 d0 d1 : Int32) (h0 : Heap) (n0 : Nat) (Z0 : n0 ≤ h0.size) (O0 : Old Z n0 h0) (S_cs : Sta Z Z.heap "java/lang/String" "COMPACT_STRINGS" "Z" (.int cs)) (hcs : ¬ (cs = (0 : Int32))) (E_a0 : Exa Z h0 a0 "com/example/backchain/backchain/model/Predicate") (Fn_a0 : Fld Z h0 a0 "com/example/backchain/backchain/model/Predicate" "name" "Ljava/lang/String;" (.ref s1)) (Fa_a0 : Fld Z h0 a0 "com/example/backchain/backchain/model/Predicate" "arity" "I" (.int x)) (E_a1 : Exa Z h0 a1 "com/example/backchain/backchain/model/Predicate") (Fn_a1 : Fld Z h0 a1 "com/example/backchain/backchain/model/Predicate" "name" "Ljava/lang/String;" (.ref s2)) (Fa_a1 : Fld Z h0 a1 "com/example/backchain/backchain/model/Predicate" "arity" "I" (.int y)) (E_s1 : Exa Z h0 s1 "java/lang/String") (Fc_s1 : Fld Z h0 s1 "java/lang/String" "coder" "B" (.int (0 : Int32))) (Fv_s1 : Fld Z h0 s1 "java/lang/String" "value" "[B" (.ref vv)) (A_vv : Ary Z h0 vv .byte [(.int b0)]) (E_s2 : Exa Z h0 s2 "java/lang/String") (Fc_s2 : Fld Z h0 s2 "java/lang/String" "coder" "B" (.int (0 : Int32))) (Fv_s2 : Fld Z h0 s2 "java/lang/String" "value" "[B" (.ref ww)) (A_ww : Ary Z h0 ww .byte [(.int d0), (.int d1)]) (hne : ¬ (a0 = a1)) (hn12 : s1 ≠ s2) :
    MetFree l (⟨"com/example/backchain/backchain/model/Predicate", "equals", "(Ljava/lang/Object;)Z"⟩ : MethodName) (head1 (Jvm.Cond.code (⟨"com/example/backchain/backchain/model/Predicate", "equals", "(Ljava/lang/Object;)Z"⟩ : MethodName) prog_24_method_4_code 3 (some .boolean) :: ws) ({ frames := 2, cells := 0, slots := 0, locals := 28 } : Room)) (fun a U => a = #[(.ref a0), (.ref a1)] ∧ Z.Warmed39 U.vm ∧ U.heap = h0) (fun _ _ _ _ _ => True) (fun _ U o U' => ∃ v L, o = .returned v ∧ Q10n12 Z a0 a1 cs x y s1 s2 vv ww b0 d0 d1 h0 n0 v U'.heap L ∧ FrameEnd U o U' L ({ frames := 2, cells := 0, slots := 0, locals := 28 } : Room).cells ({ frames := 2, cells := 0, slots := 0, locals := 28 } : Room).slots) := by
  refine MetFree.of_bodySF (plainFor_of_name pn_8) hisR ?_
  intro p e s m args below meth c s₁ Bd hml0 hP hK
  obtain ⟨rfl, hZ, hh⟩ := hP
  have hx := Bd.exec
  have hby := Bd.bytes
  have hml : c.maxLocals = 3 := hml0
  have hown : s.vm.findClass "com/example/backchain/backchain/model/Predicate" = some m.cls := findClass_of_methodNamed Bd.named
  have hnm := (name_of_methodNamed Bd.named Bd.method).1
  have hlk : meth.locks = false := BodyLoose.notSynchronized Bd
  have X0 : Stand p l e ({ frames := 2, cells := 0, slots := 0, locals := 28 } : Room) s m #[(.ref a0), (.ref a1)] below meth c s₁ [] 0 0 := Stand.of_body Bd
  have e0 : s₁.heap = h0 := by rw [← hh, Bd.state]; rfl
  have N0 := Fr.nil n0
  show Run p e s below (Q10n12 Z a0 a1 cs x y s1 s2 vv ww b0 d0 d1 h0 n0) ({ frames := 2, cells := 0, slots := 0, locals := 28 } : Room).cells ({ frames := 2, cells := 0, slots := 0, locals := 28 } : Room).slots s₁ (entryFrame m #[(.ref a0), (.ref a1)] 3)
  rw [ef_10n12]
  show Run _ _ _ _ _ _ _ s₁ (mkF m 0 #[.val (.ref a0), .val (.ref a1), .unset] [])
  refine go (T' := s₁) (f' := (mkF m 1 #[.val (.ref a0), .val (.ref a1), .unset] [(.ref a0)])) (by intro t k; exact XS.aloadN X0.here hx rfl (hb hby d10_0) rfl rfl k) ?_
  refine go (T' := s₁) (f' := (mkF m 2 #[.val (.ref a0), .val (.ref a1), .unset] [(.ref a1), (.ref a0)])) (by intro t k; exact XS.aloadN X0.here hx rfl (hb hby d10_1) rfl rfl k) ?_
  refine go (T' := s₁) (f' := (mkF m 7 #[.val (.ref a0), .val (.ref a1), .unset] [])) (by intro t k; exact Jvm.RoadKit.acmp (g := (mkF m 2 #[.val (.ref a0), .val (.ref a1), .unset] [(.ref a1), (.ref a0)])) X0 hx rfl rfl rfl (pc0 := 2) (pc' := 7) (same := false) rfl (hb hby d10_2) rfl (decide_eq_false fun q => (hne : ¬ (a0 = a1)) (Value.ref.inj q)) (by decide) (by decide) k) ?_
  refine go (T' := s₁) (f' := (mkF m 8 #[.val (.ref a0), .val (.ref a1), .unset] [(.ref a1)])) (by intro t k; exact XS.aloadN X0.here hx rfl (hb hby d10_7) rfl rfl k) ?_
  obtain ⟨T1, X1, e1, st1⟩ := instY X0 hx hZ hown (hw _ (List.mem_of_getElem? (i := 56) rfl)) e0 (Ins.self E_a1) (g := (mkF m 8 #[.val (.ref a0), .val (.ref a1), .unset] [(.ref a1)])) rfl rfl (hb hby d10_8)
  refine go st1 ?_
  show Run _ _ _ _ _ _ _ T1 (mkF m 11 #[.val (.ref a0), .val (.ref a1), .unset] [(.int (1 : Int32))])
  refine go (T' := T1) (f' := (mkF m 16 #[.val (.ref a0), .val (.ref a1), .unset] [])) (by intro t k; exact XS.ifYes X1.here hx rfl (pc0 := 11) (pc' := 16) rfl (hb hby d10_11) rfl ((if0 _ _).trans (feq (by decide : ¬ ((1 : Int32) = (0 : Int32)))).2) (by decide) (by decide) k) ?_
  refine go (T' := T1) (f' := (mkF m 17 #[.val (.ref a0), .val (.ref a1), .unset] [(.ref a1)])) (by intro t k; exact XS.aloadN X1.here hx rfl (hb hby d10_16) rfl rfl k) ?_
  obtain ⟨T2, X2, e2, st2⟩ := castY X1 hx hZ hown (hw _ (List.mem_of_getElem? (i := 56) rfl)) e1 (Ins.self E_a1) (g := (mkF m 17 #[.val (.ref a0), .val (.ref a1), .unset] [(.ref a1)])) rfl rfl (hb hby d10_17)
  refine go st2 ?_
  show Run _ _ _ _ _ _ _ T2 (mkF m 20 #[.val (.ref a0), .val (.ref a1), .unset] [(.ref a1)])
  refine go (T' := T2) (f' := (mkF m 21 #[.val (.ref a0), .val (.ref a1), .val (.ref a1)] [])) (by intro t k; exact XS.astoreN X2.here hx rfl (hb hby d10_20) rfl rfl (l' := #[.val (.ref a0), .val (.ref a1), .val (.ref a1)]) rfl k) ?_
  refine go (T' := T2) (f' := (mkF m 22 #[.val (.ref a0), .val (.ref a1), .val (.ref a1)] [(.ref a0)])) (by intro t k; exact XS.aloadN X2.here hx rfl (hb hby d10_21) rfl rfl k) ?_
  obtain ⟨T3, X3, e3, st3⟩ := getF X2 hx hZ hown (host := "") (Or.inl (hw _ (List.mem_of_getElem? (i := 49) rfl))) Via.refl e2 Fa_a0 (g := (mkF m 22 #[.val (.ref a0), .val (.ref a1), .val (.ref a1)] [(.ref a0)])) rfl rfl (hb hby d10_22)
  refine go st3 ?_
  show Run _ _ _ _ _ _ _ T3 (mkF m 25 #[.val (.ref a0), .val (.ref a1), .val (.ref a1)] [(.int x)])
  refine go (T' := T3) (f' := (mkF m 26 #[.val (.ref a0), .val (.ref a1), .val (.ref a1)] [(.ref a1), (.int x)])) (by intro t k; exact XS.aloadN X3.here hx rfl (hb hby d10_25) rfl rfl k) ?_
  obtain ⟨T4, X4, e4, st4⟩ := getF X3 hx hZ hown (host := "") (Or.inl (hw _ (List.mem_of_getElem? (i := 49) rfl))) Via.refl e3 Fa_a1 (g := (mkF m 26 #[.val (.ref a0), .val (.ref a1), .val (.ref a1)] [(.ref a1), (.int x)])) rfl rfl (hb hby d10_26)
  refine go st4 ?_
  show Run _ _ _ _ _ _ _ T4 (mkF m 29 #[.val (.ref a0), .val (.ref a1), .val (.ref a1)] [(.int y), (.int x)])
  by_cases hc29 : x = y
  · refine go (T' := T4) (f' := (mkF m 32 #[.val (.ref a0), .val (.ref a1), .val (.ref a1)] [])) (by intro t k; exact XS.icmpNo X4.here hx rfl (hb hby d10_29) rfl (teq hc29).2 k) ?_
    refine go (T' := T4) (f' := (mkF m 33 #[.val (.ref a0), .val (.ref a1), .val (.ref a1)] [(.ref a0)])) (by intro t k; exact XS.aloadN X4.here hx rfl (hb hby d10_32) rfl rfl k) ?_
    obtain ⟨T5, X5, e5, st5⟩ := getF X4 hx hZ hown (host := "") (Or.inl (hw _ (List.mem_of_getElem? (i := 47) rfl))) Via.refl e4 Fn_a0 (g := (mkF m 33 #[.val (.ref a0), .val (.ref a1), .val (.ref a1)] [(.ref a0)])) rfl rfl (hb hby d10_33)
    refine go st5 ?_
    show Run _ _ _ _ _ _ _ T5 (mkF m 36 #[.val (.ref a0), .val (.ref a1), .val (.ref a1)] [(.ref s1)])
    refine go (T' := T5) (f' := (mkF m 37 #[.val (.ref a0), .val (.ref a1), .val (.ref a1)] [(.ref a1), (.ref s1)])) (by intro t k; exact XS.aloadN X5.here hx rfl (hb hby d10_36) rfl rfl k) ?_
    obtain ⟨T6, X6, e6, st6⟩ := getF X5 hx hZ hown (host := "") (Or.inl (hw _ (List.mem_of_getElem? (i := 47) rfl))) Via.refl e5 Fn_a1 (g := (mkF m 37 #[.val (.ref a0), .val (.ref a1), .val (.ref a1)] [(.ref a1), (.ref s1)])) rfl rfl (hb hby d10_37)
    refine go st6 ?_
    show Run _ _ _ _ _ _ _ T6 (mkF m 40 #[.val (.ref a0), .val (.ref a1), .val (.ref a1)] [(.ref s2), (.ref s1)])
    obtain ⟨cq7, kq7, q7a, q7b, q7c⟩ := isOf hZ e6 E_s1
    obtain ⟨_, _, ⟨T7, Lz7, kz7, nz7⟩, -, X7, ⟨Lc7, hQ7, lz7, yz7, zz7⟩, st7⟩ := X6.virtualBack hx (y := (⟨"java/lang/String", "equals", "(Ljava/lang/Object;)Z"⟩ : MethodName)) (z := (⟨"java/lang/String", "equals", "(Ljava/lang/Object;)Z"⟩ : MethodName)) hown (mvT hZ (hw _ (List.mem_of_getElem? (i := 58) rfl))) (mvT hZ (hw _ (List.mem_of_getElem? (i := 59) rfl))) (notFace_of_selects (args := #[]) (mvT hZ (hw _ (List.mem_of_getElem? (i := 61) rfl)))) (mvT hZ (hw _ (List.mem_of_getElem? (i := 61) rfl))) (mvT hZ (hw _ (List.mem_of_getElem? (i := 60) rfl))) (by decide) (backOf (W := 0) (rm11n12 l Z aw hw [] s1 s2 cs vv ww b0 d0 d1 h0 n0 Z0 O0 S_cs hcs E_s1 Fc_s1 Fv_s1 A_vv E_s2 Fc_s2 Fv_s2 A_ww hn12) hZ (hw _ (List.mem_of_getElem? (i := 62) rfl)) (hw _ (List.mem_of_getElem? (i := 7) rfl)) (by decide) (by decide)) q7a q7c (g := (mkF m 40 #[.val (.ref a0), .val (.ref a1), .val (.ref a1)] [(.ref s2), (.ref s1)])) rfl (by rw [hml]; rfl) (Steps.refl _) (argsL := [(.ref s2)]) (rest := []) (lenOf pd_28Ljava2flang2fObject3b29Z rfl) rfl (by show 2 * 0 + _ ≤ _; exact Nat.le_of_eq rfl) (hb hby d10_40) (fun _ _ => ⟨rfl, e6, (by decide : 0 + 0 ≤ _), (by decide : 0 + 0 ≤ _)⟩)
    dsimp only [Pt.U, Pt.locs, Pt.cells, Pt.slots] at X7 lz7 yz7 zz7 st7 hQ7
    subst lz7 yz7 zz7
    obtain ⟨rfl, N7q, e7⟩ := hQ7
    have N7 := Fr.app N0 N7q
    refine go (fun _ k => st7.trans k) ?_
    show Run _ _ _ _ _ _ _ T7 (mkF m 43 #[.val (.ref a0), .val (.ref a1), .val (.ref a1)] [(.int (0 : Int32))])
    refine go (T' := T7) (f' := (mkF m 50 #[.val (.ref a0), .val (.ref a1), .val (.ref a1)] [])) (by intro t k; exact XS.ifYes X7.here hx rfl (pc0 := 43) (pc' := 50) rfl (hb hby d10_43) rfl ((if0 _ _).trans (teq (rfl : (0 : Int32) = (0 : Int32))).1) (by decide) (by decide) k) ?_
    refine go (T' := T7) (f' := (mkF m 51 #[.val (.ref a0), .val (.ref a1), .val (.ref a1)] [(.int (0 : Int32))])) (by intro t k; exact XS.iconst X7.here hx rfl (hb hby d10_50) k) ?_
    refine retZ X7 hx (t := .boolean) Bd.returns (by simp) (hb hby d10_51) hlk (by decide) (by decide) ?_
    show Q10n12 Z a0 a1 cs x y s1 s2 vv ww b0 d0 d1 h0 n0 _ T7.heap _
    rw [e7]
    have hv' : (nar .boolean (0 : Int32)) = (0 : Int32) := by
      first | rfl | ((repeat' split) <;> first | rfl | contradiction | (simp_all; done))
    have hv : (some (.int (nar .boolean (0 : Int32))) : Option Value) = some (.int (0 : Int32)) := congrArg (fun z => (some (.int z) : Option Value)) hv'
    exact ⟨hv, N7, rfl⟩
  · refine go (T' := T4) (f' := (mkF m 50 #[.val (.ref a0), .val (.ref a1), .val (.ref a1)] [])) (by intro t k; exact XS.icmpYes X4.here hx rfl (pc0 := 29) (pc' := 50) rfl (hb hby d10_29) rfl (feq hc29).2 (by decide) (by decide) k) ?_
    refine go (T' := T4) (f' := (mkF m 51 #[.val (.ref a0), .val (.ref a1), .val (.ref a1)] [(.int (0 : Int32))])) (by intro t k; exact XS.iconst X4.here hx rfl (hb hby d10_50) k) ?_
    refine retZ X4 hx (t := .boolean) Bd.returns (by simp) (hb hby d10_51) hlk (by decide) (by decide) ?_
    show Q10n12 Z a0 a1 cs x y s1 s2 vv ww b0 d0 d1 h0 n0 _ T4.heap _
    rw [e4]
    have hv' : (nar .boolean (0 : Int32)) = (0 : Int32) := by
      first | rfl | ((repeat' split) <;> first | rfl | contradiction | (simp_all; done))
    have hv : (some (.int (nar .boolean (0 : Int32))) : Option Value) = some (.int (0 : Int32)) := congrArg (fun z => (some (.int z) : Option Value)) hv'
    exact ⟨hv, N0, rfl⟩
theorem ef_10n21 (m : MethodId) (x0 : Addr) (x1 : Addr) : entryFrame m #[(.ref x0), (.ref x1)] 3 = mkF m 0 #[.val (.ref x0), .val (.ref x1), .unset] [] := by first | (simp [entryFrame, mkF, argsToLocals, Value.category]; done) | rfl
def Q10n21 (Z : State) (a0 : Addr) (a1 : Addr) (cs x y : Int32) (s1 s2 vv ww : Addr) (b0 b1 d0 : Int32) (h0 : Heap) (n0 : Nat) (v : Option Value) (h : Heap) (L : List Loc) : Prop := v = some (.int (0 : Int32)) ∧ Fr n0 L ∧ h = h0
set_option maxRecDepth 65536 in
set_option maxHeartbeats 40000000 in
theorem rm10n21 (l : Launch) (Z : State) (aw : Array Value) (hw : ∀ d ∈ tables_1, d.before aw Z = true) (ws : List Jvm.Cond) (a0 : Addr) (a1 : Addr) (cs x y : Int32) (s1 s2 vv ww : Addr) (b0 b1 d0 : Int32) (h0 : Heap) (n0 : Nat) (Z0 : n0 ≤ h0.size) (O0 : Old Z n0 h0) (S_cs : Sta Z Z.heap "java/lang/String" "COMPACT_STRINGS" "Z" (.int cs)) (hcs : ¬ (cs = (0 : Int32))) (E_a0 : Exa Z h0 a0 "com/example/backchain/backchain/model/Predicate") (Fn_a0 : Fld Z h0 a0 "com/example/backchain/backchain/model/Predicate" "name" "Ljava/lang/String;" (.ref s1)) (Fa_a0 : Fld Z h0 a0 "com/example/backchain/backchain/model/Predicate" "arity" "I" (.int x)) (E_a1 : Exa Z h0 a1 "com/example/backchain/backchain/model/Predicate") (Fn_a1 : Fld Z h0 a1 "com/example/backchain/backchain/model/Predicate" "name" "Ljava/lang/String;" (.ref s2)) (Fa_a1 : Fld Z h0 a1 "com/example/backchain/backchain/model/Predicate" "arity" "I" (.int y)) (E_s1 : Exa Z h0 s1 "java/lang/String") (Fc_s1 : Fld Z h0 s1 "java/lang/String" "coder" "B" (.int (0 : Int32))) (Fv_s1 : Fld Z h0 s1 "java/lang/String" "value" "[B" (.ref vv)) (A_vv : Ary Z h0 vv .byte [(.int b0), (.int b1)]) (E_s2 : Exa Z h0 s2 "java/lang/String") (Fc_s2 : Fld Z h0 s2 "java/lang/String" "coder" "B" (.int (0 : Int32))) (Fv_s2 : Fld Z h0 s2 "java/lang/String" "value" "[B" (.ref ww)) (A_ww : Ary Z h0 ww .byte [(.int d0)]) (hne : ¬ (a0 = a1)) (hn12 : s1 ≠ s2) :
    MetFree l (⟨"com/example/backchain/backchain/model/Predicate", "equals", "(Ljava/lang/Object;)Z"⟩ : MethodName) (head1 (Jvm.Cond.code (⟨"com/example/backchain/backchain/model/Predicate", "equals", "(Ljava/lang/Object;)Z"⟩ : MethodName) prog_24_method_4_code 3 (some .boolean) :: ws) ({ frames := 2, cells := 0, slots := 0, locals := 28 } : Room)) (fun a U => a = #[(.ref a0), (.ref a1)] ∧ Z.Warmed39 U.vm ∧ U.heap = h0) (fun _ _ _ _ _ => True) (fun _ U o U' => ∃ v L, o = .returned v ∧ Q10n21 Z a0 a1 cs x y s1 s2 vv ww b0 b1 d0 h0 n0 v U'.heap L ∧ FrameEnd U o U' L ({ frames := 2, cells := 0, slots := 0, locals := 28 } : Room).cells ({ frames := 2, cells := 0, slots := 0, locals := 28 } : Room).slots) := by
  refine MetFree.of_bodySF (plainFor_of_name pn_8) hisR ?_
  intro p e s m args below meth c s₁ Bd hml0 hP hK
  obtain ⟨rfl, hZ, hh⟩ := hP
  have hx := Bd.exec
  have hby := Bd.bytes
  have hml : c.maxLocals = 3 := hml0
  have hown : s.vm.findClass "com/example/backchain/backchain/model/Predicate" = some m.cls := findClass_of_methodNamed Bd.named
  have hnm := (name_of_methodNamed Bd.named Bd.method).1
  have hlk : meth.locks = false := BodyLoose.notSynchronized Bd
  have X0 : Stand p l e ({ frames := 2, cells := 0, slots := 0, locals := 28 } : Room) s m #[(.ref a0), (.ref a1)] below meth c s₁ [] 0 0 := Stand.of_body Bd
  have e0 : s₁.heap = h0 := by rw [← hh, Bd.state]; rfl
  have N0 := Fr.nil n0
  show Run p e s below (Q10n21 Z a0 a1 cs x y s1 s2 vv ww b0 b1 d0 h0 n0) ({ frames := 2, cells := 0, slots := 0, locals := 28 } : Room).cells ({ frames := 2, cells := 0, slots := 0, locals := 28 } : Room).slots s₁ (entryFrame m #[(.ref a0), (.ref a1)] 3)
  rw [ef_10n21]
  show Run _ _ _ _ _ _ _ s₁ (mkF m 0 #[.val (.ref a0), .val (.ref a1), .unset] [])
  refine go (T' := s₁) (f' := (mkF m 1 #[.val (.ref a0), .val (.ref a1), .unset] [(.ref a0)])) (by intro t k; exact XS.aloadN X0.here hx rfl (hb hby d10_0) rfl rfl k) ?_
  refine go (T' := s₁) (f' := (mkF m 2 #[.val (.ref a0), .val (.ref a1), .unset] [(.ref a1), (.ref a0)])) (by intro t k; exact XS.aloadN X0.here hx rfl (hb hby d10_1) rfl rfl k) ?_
  refine go (T' := s₁) (f' := (mkF m 7 #[.val (.ref a0), .val (.ref a1), .unset] [])) (by intro t k; exact Jvm.RoadKit.acmp (g := (mkF m 2 #[.val (.ref a0), .val (.ref a1), .unset] [(.ref a1), (.ref a0)])) X0 hx rfl rfl rfl (pc0 := 2) (pc' := 7) (same := false) rfl (hb hby d10_2) rfl (decide_eq_false fun q => (hne : ¬ (a0 = a1)) (Value.ref.inj q)) (by decide) (by decide) k) ?_
  refine go (T' := s₁) (f' := (mkF m 8 #[.val (.ref a0), .val (.ref a1), .unset] [(.ref a1)])) (by intro t k; exact XS.aloadN X0.here hx rfl (hb hby d10_7) rfl rfl k) ?_
  obtain ⟨T1, X1, e1, st1⟩ := instY X0 hx hZ hown (hw _ (List.mem_of_getElem? (i := 56) rfl)) e0 (Ins.self E_a1) (g := (mkF m 8 #[.val (.ref a0), .val (.ref a1), .unset] [(.ref a1)])) rfl rfl (hb hby d10_8)
  refine go st1 ?_
  show Run _ _ _ _ _ _ _ T1 (mkF m 11 #[.val (.ref a0), .val (.ref a1), .unset] [(.int (1 : Int32))])
  refine go (T' := T1) (f' := (mkF m 16 #[.val (.ref a0), .val (.ref a1), .unset] [])) (by intro t k; exact XS.ifYes X1.here hx rfl (pc0 := 11) (pc' := 16) rfl (hb hby d10_11) rfl ((if0 _ _).trans (feq (by decide : ¬ ((1 : Int32) = (0 : Int32)))).2) (by decide) (by decide) k) ?_
  refine go (T' := T1) (f' := (mkF m 17 #[.val (.ref a0), .val (.ref a1), .unset] [(.ref a1)])) (by intro t k; exact XS.aloadN X1.here hx rfl (hb hby d10_16) rfl rfl k) ?_
  obtain ⟨T2, X2, e2, st2⟩ := castY X1 hx hZ hown (hw _ (List.mem_of_getElem? (i := 56) rfl)) e1 (Ins.self E_a1) (g := (mkF m 17 #[.val (.ref a0), .val (.ref a1), .unset] [(.ref a1)])) rfl rfl (hb hby d10_17)
  refine go st2 ?_
  show Run _ _ _ _ _ _ _ T2 (mkF m 20 #[.val (.ref a0), .val (.ref a1), .unset] [(.ref a1)])
  refine go (T' := T2) (f' := (mkF m 21 #[.val (.ref a0), .val (.ref a1), .val (.ref a1)] [])) (by intro t k; exact XS.astoreN X2.here hx rfl (hb hby d10_20) rfl rfl (l' := #[.val (.ref a0), .val (.ref a1), .val (.ref a1)]) rfl k) ?_
  refine go (T' := T2) (f' := (mkF m 22 #[.val (.ref a0), .val (.ref a1), .val (.ref a1)] [(.ref a0)])) (by intro t k; exact XS.aloadN X2.here hx rfl (hb hby d10_21) rfl rfl k) ?_
  obtain ⟨T3, X3, e3, st3⟩ := getF X2 hx hZ hown (host := "") (Or.inl (hw _ (List.mem_of_getElem? (i := 49) rfl))) Via.refl e2 Fa_a0 (g := (mkF m 22 #[.val (.ref a0), .val (.ref a1), .val (.ref a1)] [(.ref a0)])) rfl rfl (hb hby d10_22)
  refine go st3 ?_
  show Run _ _ _ _ _ _ _ T3 (mkF m 25 #[.val (.ref a0), .val (.ref a1), .val (.ref a1)] [(.int x)])
  refine go (T' := T3) (f' := (mkF m 26 #[.val (.ref a0), .val (.ref a1), .val (.ref a1)] [(.ref a1), (.int x)])) (by intro t k; exact XS.aloadN X3.here hx rfl (hb hby d10_25) rfl rfl k) ?_
  obtain ⟨T4, X4, e4, st4⟩ := getF X3 hx hZ hown (host := "") (Or.inl (hw _ (List.mem_of_getElem? (i := 49) rfl))) Via.refl e3 Fa_a1 (g := (mkF m 26 #[.val (.ref a0), .val (.ref a1), .val (.ref a1)] [(.ref a1), (.int x)])) rfl rfl (hb hby d10_26)
  refine go st4 ?_
  show Run _ _ _ _ _ _ _ T4 (mkF m 29 #[.val (.ref a0), .val (.ref a1), .val (.ref a1)] [(.int y), (.int x)])
  by_cases hc29 : x = y
  · refine go (T' := T4) (f' := (mkF m 32 #[.val (.ref a0), .val (.ref a1), .val (.ref a1)] [])) (by intro t k; exact XS.icmpNo X4.here hx rfl (hb hby d10_29) rfl (teq hc29).2 k) ?_
    refine go (T' := T4) (f' := (mkF m 33 #[.val (.ref a0), .val (.ref a1), .val (.ref a1)] [(.ref a0)])) (by intro t k; exact XS.aloadN X4.here hx rfl (hb hby d10_32) rfl rfl k) ?_
    obtain ⟨T5, X5, e5, st5⟩ := getF X4 hx hZ hown (host := "") (Or.inl (hw _ (List.mem_of_getElem? (i := 47) rfl))) Via.refl e4 Fn_a0 (g := (mkF m 33 #[.val (.ref a0), .val (.ref a1), .val (.ref a1)] [(.ref a0)])) rfl rfl (hb hby d10_33)
    refine go st5 ?_
    show Run _ _ _ _ _ _ _ T5 (mkF m 36 #[.val (.ref a0), .val (.ref a1), .val (.ref a1)] [(.ref s1)])
    refine go (T' := T5) (f' := (mkF m 37 #[.val (.ref a0), .val (.ref a1), .val (.ref a1)] [(.ref a1), (.ref s1)])) (by intro t k; exact XS.aloadN X5.here hx rfl (hb hby d10_36) rfl rfl k) ?_
    obtain ⟨T6, X6, e6, st6⟩ := getF X5 hx hZ hown (host := "") (Or.inl (hw _ (List.mem_of_getElem? (i := 47) rfl))) Via.refl e5 Fn_a1 (g := (mkF m 37 #[.val (.ref a0), .val (.ref a1), .val (.ref a1)] [(.ref a1), (.ref s1)])) rfl rfl (hb hby d10_37)
    refine go st6 ?_
    show Run _ _ _ _ _ _ _ T6 (mkF m 40 #[.val (.ref a0), .val (.ref a1), .val (.ref a1)] [(.ref s2), (.ref s1)])
    obtain ⟨cq7, kq7, q7a, q7b, q7c⟩ := isOf hZ e6 E_s1
    obtain ⟨_, _, ⟨T7, Lz7, kz7, nz7⟩, -, X7, ⟨Lc7, hQ7, lz7, yz7, zz7⟩, st7⟩ := X6.virtualBack hx (y := (⟨"java/lang/String", "equals", "(Ljava/lang/Object;)Z"⟩ : MethodName)) (z := (⟨"java/lang/String", "equals", "(Ljava/lang/Object;)Z"⟩ : MethodName)) hown (mvT hZ (hw _ (List.mem_of_getElem? (i := 58) rfl))) (mvT hZ (hw _ (List.mem_of_getElem? (i := 59) rfl))) (notFace_of_selects (args := #[]) (mvT hZ (hw _ (List.mem_of_getElem? (i := 61) rfl)))) (mvT hZ (hw _ (List.mem_of_getElem? (i := 61) rfl))) (mvT hZ (hw _ (List.mem_of_getElem? (i := 60) rfl))) (by decide) (backOf (W := 0) (rm11n21 l Z aw hw [] s1 s2 cs vv ww b0 b1 d0 h0 n0 Z0 O0 S_cs hcs E_s1 Fc_s1 Fv_s1 A_vv E_s2 Fc_s2 Fv_s2 A_ww hn12) hZ (hw _ (List.mem_of_getElem? (i := 62) rfl)) (hw _ (List.mem_of_getElem? (i := 7) rfl)) (by decide) (by decide)) q7a q7c (g := (mkF m 40 #[.val (.ref a0), .val (.ref a1), .val (.ref a1)] [(.ref s2), (.ref s1)])) rfl (by rw [hml]; rfl) (Steps.refl _) (argsL := [(.ref s2)]) (rest := []) (lenOf pd_28Ljava2flang2fObject3b29Z rfl) rfl (by show 2 * 0 + _ ≤ _; exact Nat.le_of_eq rfl) (hb hby d10_40) (fun _ _ => ⟨rfl, e6, (by decide : 0 + 0 ≤ _), (by decide : 0 + 0 ≤ _)⟩)
    dsimp only [Pt.U, Pt.locs, Pt.cells, Pt.slots] at X7 lz7 yz7 zz7 st7 hQ7
    subst lz7 yz7 zz7
    obtain ⟨rfl, N7q, e7⟩ := hQ7
    have N7 := Fr.app N0 N7q
    refine go (fun _ k => st7.trans k) ?_
    show Run _ _ _ _ _ _ _ T7 (mkF m 43 #[.val (.ref a0), .val (.ref a1), .val (.ref a1)] [(.int (0 : Int32))])
    refine go (T' := T7) (f' := (mkF m 50 #[.val (.ref a0), .val (.ref a1), .val (.ref a1)] [])) (by intro t k; exact XS.ifYes X7.here hx rfl (pc0 := 43) (pc' := 50) rfl (hb hby d10_43) rfl ((if0 _ _).trans (teq (rfl : (0 : Int32) = (0 : Int32))).1) (by decide) (by decide) k) ?_
    refine go (T' := T7) (f' := (mkF m 51 #[.val (.ref a0), .val (.ref a1), .val (.ref a1)] [(.int (0 : Int32))])) (by intro t k; exact XS.iconst X7.here hx rfl (hb hby d10_50) k) ?_
    refine retZ X7 hx (t := .boolean) Bd.returns (by simp) (hb hby d10_51) hlk (by decide) (by decide) ?_
    show Q10n21 Z a0 a1 cs x y s1 s2 vv ww b0 b1 d0 h0 n0 _ T7.heap _
    rw [e7]
    have hv' : (nar .boolean (0 : Int32)) = (0 : Int32) := by
      first | rfl | ((repeat' split) <;> first | rfl | contradiction | (simp_all; done))
    have hv : (some (.int (nar .boolean (0 : Int32))) : Option Value) = some (.int (0 : Int32)) := congrArg (fun z => (some (.int z) : Option Value)) hv'
    exact ⟨hv, N7, rfl⟩
  · refine go (T' := T4) (f' := (mkF m 50 #[.val (.ref a0), .val (.ref a1), .val (.ref a1)] [])) (by intro t k; exact XS.icmpYes X4.here hx rfl (pc0 := 29) (pc' := 50) rfl (hb hby d10_29) rfl (feq hc29).2 (by decide) (by decide) k) ?_
    refine go (T' := T4) (f' := (mkF m 51 #[.val (.ref a0), .val (.ref a1), .val (.ref a1)] [(.int (0 : Int32))])) (by intro t k; exact XS.iconst X4.here hx rfl (hb hby d10_50) k) ?_
    refine retZ X4 hx (t := .boolean) Bd.returns (by simp) (hb hby d10_51) hlk (by decide) (by decide) ?_
    show Q10n21 Z a0 a1 cs x y s1 s2 vv ww b0 b1 d0 h0 n0 _ T4.heap _
    rw [e4]
    have hv' : (nar .boolean (0 : Int32)) = (0 : Int32) := by
      first | rfl | ((repeat' split) <;> first | rfl | contradiction | (simp_all; done))
    have hv : (some (.int (nar .boolean (0 : Int32))) : Option Value) = some (.int (0 : Int32)) := congrArg (fun z => (some (.int z) : Option Value)) hv'
    exact ⟨hv, N0, rfl⟩
theorem ef_10n22 (m : MethodId) (x0 : Addr) (x1 : Addr) : entryFrame m #[(.ref x0), (.ref x1)] 3 = mkF m 0 #[.val (.ref x0), .val (.ref x1), .unset] [] := by first | (simp [entryFrame, mkF, argsToLocals, Value.category]; done) | rfl
def Q10n22 (Z : State) (a0 : Addr) (a1 : Addr) (cs x y : Int32) (s1 s2 vv ww : Addr) (b0 b1 d0 d1 : Int32) (h0 : Heap) (n0 : Nat) (v : Option Value) (h : Heap) (L : List Loc) : Prop := v = some (.int (if x = y then (if b0 = d0 then (if b1 = d1 then (1 : Int32) else (0 : Int32)) else (0 : Int32)) else (0 : Int32))) ∧ Fr n0 L ∧ h = h0
set_option maxRecDepth 65536 in
set_option maxHeartbeats 40000000 in
theorem rm10n22 (l : Launch) (Z : State) (aw : Array Value) (hw : ∀ d ∈ tables_1, d.before aw Z = true) (ws : List Jvm.Cond) (a0 : Addr) (a1 : Addr) (cs x y : Int32) (s1 s2 vv ww : Addr) (b0 b1 d0 d1 : Int32) (h0 : Heap) (n0 : Nat) (Z0 : n0 ≤ h0.size) (O0 : Old Z n0 h0) (S_cs : Sta Z Z.heap "java/lang/String" "COMPACT_STRINGS" "Z" (.int cs)) (hcs : ¬ (cs = (0 : Int32))) (E_a0 : Exa Z h0 a0 "com/example/backchain/backchain/model/Predicate") (Fn_a0 : Fld Z h0 a0 "com/example/backchain/backchain/model/Predicate" "name" "Ljava/lang/String;" (.ref s1)) (Fa_a0 : Fld Z h0 a0 "com/example/backchain/backchain/model/Predicate" "arity" "I" (.int x)) (E_a1 : Exa Z h0 a1 "com/example/backchain/backchain/model/Predicate") (Fn_a1 : Fld Z h0 a1 "com/example/backchain/backchain/model/Predicate" "name" "Ljava/lang/String;" (.ref s2)) (Fa_a1 : Fld Z h0 a1 "com/example/backchain/backchain/model/Predicate" "arity" "I" (.int y)) (E_s1 : Exa Z h0 s1 "java/lang/String") (Fc_s1 : Fld Z h0 s1 "java/lang/String" "coder" "B" (.int (0 : Int32))) (Fv_s1 : Fld Z h0 s1 "java/lang/String" "value" "[B" (.ref vv)) (A_vv : Ary Z h0 vv .byte [(.int b0), (.int b1)]) (E_s2 : Exa Z h0 s2 "java/lang/String") (Fc_s2 : Fld Z h0 s2 "java/lang/String" "coder" "B" (.int (0 : Int32))) (Fv_s2 : Fld Z h0 s2 "java/lang/String" "value" "[B" (.ref ww)) (A_ww : Ary Z h0 ww .byte [(.int d0), (.int d1)]) (hne : ¬ (a0 = a1)) (hn12 : s1 ≠ s2) :
    MetFree l (⟨"com/example/backchain/backchain/model/Predicate", "equals", "(Ljava/lang/Object;)Z"⟩ : MethodName) (head1 (Jvm.Cond.code (⟨"com/example/backchain/backchain/model/Predicate", "equals", "(Ljava/lang/Object;)Z"⟩ : MethodName) prog_24_method_4_code 3 (some .boolean) :: ws) ({ frames := 2, cells := 0, slots := 0, locals := 28 } : Room)) (fun a U => a = #[(.ref a0), (.ref a1)] ∧ Z.Warmed39 U.vm ∧ U.heap = h0) (fun _ _ _ _ _ => True) (fun _ U o U' => ∃ v L, o = .returned v ∧ Q10n22 Z a0 a1 cs x y s1 s2 vv ww b0 b1 d0 d1 h0 n0 v U'.heap L ∧ FrameEnd U o U' L ({ frames := 2, cells := 0, slots := 0, locals := 28 } : Room).cells ({ frames := 2, cells := 0, slots := 0, locals := 28 } : Room).slots) := by
  refine MetFree.of_bodySF (plainFor_of_name pn_8) hisR ?_
  intro p e s m args below meth c s₁ Bd hml0 hP hK
  obtain ⟨rfl, hZ, hh⟩ := hP
  have hx := Bd.exec
  have hby := Bd.bytes
  have hml : c.maxLocals = 3 := hml0
  have hown : s.vm.findClass "com/example/backchain/backchain/model/Predicate" = some m.cls := findClass_of_methodNamed Bd.named
  have hnm := (name_of_methodNamed Bd.named Bd.method).1
  have hlk : meth.locks = false := BodyLoose.notSynchronized Bd
  have X0 : Stand p l e ({ frames := 2, cells := 0, slots := 0, locals := 28 } : Room) s m #[(.ref a0), (.ref a1)] below meth c s₁ [] 0 0 := Stand.of_body Bd
  have e0 : s₁.heap = h0 := by rw [← hh, Bd.state]; rfl
  have N0 := Fr.nil n0
  show Run p e s below (Q10n22 Z a0 a1 cs x y s1 s2 vv ww b0 b1 d0 d1 h0 n0) ({ frames := 2, cells := 0, slots := 0, locals := 28 } : Room).cells ({ frames := 2, cells := 0, slots := 0, locals := 28 } : Room).slots s₁ (entryFrame m #[(.ref a0), (.ref a1)] 3)
  rw [ef_10n22]
  show Run _ _ _ _ _ _ _ s₁ (mkF m 0 #[.val (.ref a0), .val (.ref a1), .unset] [])
  refine go (T' := s₁) (f' := (mkF m 1 #[.val (.ref a0), .val (.ref a1), .unset] [(.ref a0)])) (by intro t k; exact XS.aloadN X0.here hx rfl (hb hby d10_0) rfl rfl k) ?_
  refine go (T' := s₁) (f' := (mkF m 2 #[.val (.ref a0), .val (.ref a1), .unset] [(.ref a1), (.ref a0)])) (by intro t k; exact XS.aloadN X0.here hx rfl (hb hby d10_1) rfl rfl k) ?_
  refine go (T' := s₁) (f' := (mkF m 7 #[.val (.ref a0), .val (.ref a1), .unset] [])) (by intro t k; exact Jvm.RoadKit.acmp (g := (mkF m 2 #[.val (.ref a0), .val (.ref a1), .unset] [(.ref a1), (.ref a0)])) X0 hx rfl rfl rfl (pc0 := 2) (pc' := 7) (same := false) rfl (hb hby d10_2) rfl (decide_eq_false fun q => (hne : ¬ (a0 = a1)) (Value.ref.inj q)) (by decide) (by decide) k) ?_
  refine go (T' := s₁) (f' := (mkF m 8 #[.val (.ref a0), .val (.ref a1), .unset] [(.ref a1)])) (by intro t k; exact XS.aloadN X0.here hx rfl (hb hby d10_7) rfl rfl k) ?_
  obtain ⟨T1, X1, e1, st1⟩ := instY X0 hx hZ hown (hw _ (List.mem_of_getElem? (i := 56) rfl)) e0 (Ins.self E_a1) (g := (mkF m 8 #[.val (.ref a0), .val (.ref a1), .unset] [(.ref a1)])) rfl rfl (hb hby d10_8)
  refine go st1 ?_
  show Run _ _ _ _ _ _ _ T1 (mkF m 11 #[.val (.ref a0), .val (.ref a1), .unset] [(.int (1 : Int32))])
  refine go (T' := T1) (f' := (mkF m 16 #[.val (.ref a0), .val (.ref a1), .unset] [])) (by intro t k; exact XS.ifYes X1.here hx rfl (pc0 := 11) (pc' := 16) rfl (hb hby d10_11) rfl ((if0 _ _).trans (feq (by decide : ¬ ((1 : Int32) = (0 : Int32)))).2) (by decide) (by decide) k) ?_
  refine go (T' := T1) (f' := (mkF m 17 #[.val (.ref a0), .val (.ref a1), .unset] [(.ref a1)])) (by intro t k; exact XS.aloadN X1.here hx rfl (hb hby d10_16) rfl rfl k) ?_
  obtain ⟨T2, X2, e2, st2⟩ := castY X1 hx hZ hown (hw _ (List.mem_of_getElem? (i := 56) rfl)) e1 (Ins.self E_a1) (g := (mkF m 17 #[.val (.ref a0), .val (.ref a1), .unset] [(.ref a1)])) rfl rfl (hb hby d10_17)
  refine go st2 ?_
  show Run _ _ _ _ _ _ _ T2 (mkF m 20 #[.val (.ref a0), .val (.ref a1), .unset] [(.ref a1)])
  refine go (T' := T2) (f' := (mkF m 21 #[.val (.ref a0), .val (.ref a1), .val (.ref a1)] [])) (by intro t k; exact XS.astoreN X2.here hx rfl (hb hby d10_20) rfl rfl (l' := #[.val (.ref a0), .val (.ref a1), .val (.ref a1)]) rfl k) ?_
  refine go (T' := T2) (f' := (mkF m 22 #[.val (.ref a0), .val (.ref a1), .val (.ref a1)] [(.ref a0)])) (by intro t k; exact XS.aloadN X2.here hx rfl (hb hby d10_21) rfl rfl k) ?_
  obtain ⟨T3, X3, e3, st3⟩ := getF X2 hx hZ hown (host := "") (Or.inl (hw _ (List.mem_of_getElem? (i := 49) rfl))) Via.refl e2 Fa_a0 (g := (mkF m 22 #[.val (.ref a0), .val (.ref a1), .val (.ref a1)] [(.ref a0)])) rfl rfl (hb hby d10_22)
  refine go st3 ?_
  show Run _ _ _ _ _ _ _ T3 (mkF m 25 #[.val (.ref a0), .val (.ref a1), .val (.ref a1)] [(.int x)])
  refine go (T' := T3) (f' := (mkF m 26 #[.val (.ref a0), .val (.ref a1), .val (.ref a1)] [(.ref a1), (.int x)])) (by intro t k; exact XS.aloadN X3.here hx rfl (hb hby d10_25) rfl rfl k) ?_
  obtain ⟨T4, X4, e4, st4⟩ := getF X3 hx hZ hown (host := "") (Or.inl (hw _ (List.mem_of_getElem? (i := 49) rfl))) Via.refl e3 Fa_a1 (g := (mkF m 26 #[.val (.ref a0), .val (.ref a1), .val (.ref a1)] [(.ref a1), (.int x)])) rfl rfl (hb hby d10_26)
  refine go st4 ?_
  show Run _ _ _ _ _ _ _ T4 (mkF m 29 #[.val (.ref a0), .val (.ref a1), .val (.ref a1)] [(.int y), (.int x)])
  by_cases hc29 : x = y
  · refine go (T' := T4) (f' := (mkF m 32 #[.val (.ref a0), .val (.ref a1), .val (.ref a1)] [])) (by intro t k; exact XS.icmpNo X4.here hx rfl (hb hby d10_29) rfl (teq hc29).2 k) ?_
    refine go (T' := T4) (f' := (mkF m 33 #[.val (.ref a0), .val (.ref a1), .val (.ref a1)] [(.ref a0)])) (by intro t k; exact XS.aloadN X4.here hx rfl (hb hby d10_32) rfl rfl k) ?_
    obtain ⟨T5, X5, e5, st5⟩ := getF X4 hx hZ hown (host := "") (Or.inl (hw _ (List.mem_of_getElem? (i := 47) rfl))) Via.refl e4 Fn_a0 (g := (mkF m 33 #[.val (.ref a0), .val (.ref a1), .val (.ref a1)] [(.ref a0)])) rfl rfl (hb hby d10_33)
    refine go st5 ?_
    show Run _ _ _ _ _ _ _ T5 (mkF m 36 #[.val (.ref a0), .val (.ref a1), .val (.ref a1)] [(.ref s1)])
    refine go (T' := T5) (f' := (mkF m 37 #[.val (.ref a0), .val (.ref a1), .val (.ref a1)] [(.ref a1), (.ref s1)])) (by intro t k; exact XS.aloadN X5.here hx rfl (hb hby d10_36) rfl rfl k) ?_
    obtain ⟨T6, X6, e6, st6⟩ := getF X5 hx hZ hown (host := "") (Or.inl (hw _ (List.mem_of_getElem? (i := 47) rfl))) Via.refl e5 Fn_a1 (g := (mkF m 37 #[.val (.ref a0), .val (.ref a1), .val (.ref a1)] [(.ref a1), (.ref s1)])) rfl rfl (hb hby d10_37)
    refine go st6 ?_
    show Run _ _ _ _ _ _ _ T6 (mkF m 40 #[.val (.ref a0), .val (.ref a1), .val (.ref a1)] [(.ref s2), (.ref s1)])
    obtain ⟨cq7, kq7, q7a, q7b, q7c⟩ := isOf hZ e6 E_s1
    obtain ⟨_, _, ⟨T7, Lz7, kz7, nz7⟩, -, X7, ⟨Lc7, hQ7, lz7, yz7, zz7⟩, st7⟩ := X6.virtualBack hx (y := (⟨"java/lang/String", "equals", "(Ljava/lang/Object;)Z"⟩ : MethodName)) (z := (⟨"java/lang/String", "equals", "(Ljava/lang/Object;)Z"⟩ : MethodName)) hown (mvT hZ (hw _ (List.mem_of_getElem? (i := 58) rfl))) (mvT hZ (hw _ (List.mem_of_getElem? (i := 59) rfl))) (notFace_of_selects (args := #[]) (mvT hZ (hw _ (List.mem_of_getElem? (i := 61) rfl)))) (mvT hZ (hw _ (List.mem_of_getElem? (i := 61) rfl))) (mvT hZ (hw _ (List.mem_of_getElem? (i := 60) rfl))) (by decide) (backOf (W := 0) (rm11n22 l Z aw hw [] s1 s2 cs vv ww b0 b1 d0 d1 h0 n0 Z0 O0 S_cs hcs E_s1 Fc_s1 Fv_s1 A_vv E_s2 Fc_s2 Fv_s2 A_ww hn12) hZ (hw _ (List.mem_of_getElem? (i := 62) rfl)) (hw _ (List.mem_of_getElem? (i := 7) rfl)) (by decide) (by decide)) q7a q7c (g := (mkF m 40 #[.val (.ref a0), .val (.ref a1), .val (.ref a1)] [(.ref s2), (.ref s1)])) rfl (by rw [hml]; rfl) (Steps.refl _) (argsL := [(.ref s2)]) (rest := []) (lenOf pd_28Ljava2flang2fObject3b29Z rfl) rfl (by show 2 * 0 + _ ≤ _; exact Nat.le_of_eq rfl) (hb hby d10_40) (fun _ _ => ⟨rfl, e6, (by decide : 0 + 0 ≤ _), (by decide : 0 + 0 ≤ _)⟩)
    dsimp only [Pt.U, Pt.locs, Pt.cells, Pt.slots] at X7 lz7 yz7 zz7 st7 hQ7
    subst lz7 yz7 zz7
    obtain ⟨rfl, N7q, e7⟩ := hQ7
    have N7 := Fr.app N0 N7q
    refine go (fun _ k => st7.trans k) ?_
    show Run _ _ _ _ _ _ _ T7 (mkF m 43 #[.val (.ref a0), .val (.ref a1), .val (.ref a1)] [(.int (if b0 = d0 then (if b1 = d1 then (1 : Int32) else (0 : Int32)) else (0 : Int32)))])
    obtain ⟨z8, hz8⟩ : ∃ z : Int32, z = (if (if b0 = d0 then (if b1 = d1 then (1 : Int32) else (0 : Int32)) else (0 : Int32)) = (0 : Int32) then (0 : Int32) else (1 : Int32)) := ⟨_, rfl⟩
    have J43 : Run p e s below (Q10n22 Z a0 a1 cs x y s1 s2 vv ww b0 b1 d0 d1 h0 n0) ({ frames := 2, cells := 0, slots := 0, locals := 28 } : Room).cells ({ frames := 2, cells := 0, slots := 0, locals := 28 } : Room).slots T7 (mkF m 51 #[.val (.ref a0), .val (.ref a1), .val (.ref a1)] [(.int z8)]) := by
      show Run _ _ _ _ _ _ _ T7 (mkF m 51 #[.val (.ref a0), .val (.ref a1), .val (.ref a1)] [(.int z8)])
      refine retZ X7 hx (t := .boolean) Bd.returns (by simp) (hb hby d10_51) hlk (by decide) (by decide) ?_
      show Q10n22 Z a0 a1 cs x y s1 s2 vv ww b0 b1 d0 d1 h0 n0 _ T7.heap _
      rw [e7]
      have hv' : (nar .boolean z8) = (if x = y then (if b0 = d0 then (if b1 = d1 then (1 : Int32) else (0 : Int32)) else (0 : Int32)) else (0 : Int32)) := by
        rw [hz8]
        first | rfl | ((repeat' split) <;> first | rfl | contradiction | (simp_all; done))
      have hv : (some (.int (nar .boolean z8)) : Option Value) = some (.int (if x = y then (if b0 = d0 then (if b1 = d1 then (1 : Int32) else (0 : Int32)) else (0 : Int32)) else (0 : Int32))) := congrArg (fun z => (some (.int z) : Option Value)) hv'
      exact ⟨hv, N7, rfl⟩
    show Run _ _ _ _ _ _ _ T7 (mkF m 43 #[.val (.ref a0), .val (.ref a1), .val (.ref a1)] [(.int (if b0 = d0 then (if b1 = d1 then (1 : Int32) else (0 : Int32)) else (0 : Int32)))])
    by_cases hc43 : (if b0 = d0 then (if b1 = d1 then (1 : Int32) else (0 : Int32)) else (0 : Int32)) = (0 : Int32)
    · refine go (T' := T7) (f' := (mkF m 50 #[.val (.ref a0), .val (.ref a1), .val (.ref a1)] [])) (by intro t k; exact XS.ifYes X7.here hx rfl (pc0 := 43) (pc' := 50) rfl (hb hby d10_43) rfl ((if0 _ _).trans (teq hc43).1) (by decide) (by decide) k) ?_
      refine go (T' := T7) (f' := (mkF m 51 #[.val (.ref a0), .val (.ref a1), .val (.ref a1)] [(.int (0 : Int32))])) (by intro t k; exact XS.iconst X7.here hx rfl (hb hby d10_50) k) ?_
      have ez8 : z8 = (0 : Int32) := (hz8).trans (if_pos hc43)
      subst ez8
      exact J43
    · refine go (T' := T7) (f' := (mkF m 46 #[.val (.ref a0), .val (.ref a1), .val (.ref a1)] [])) (by intro t k; exact XS.ifNo X7.here hx rfl (hb hby d10_43) rfl ((if0 _ _).trans (feq hc43).1) k) ?_
      refine go (T' := T7) (f' := (mkF m 47 #[.val (.ref a0), .val (.ref a1), .val (.ref a1)] [(.int (1 : Int32))])) (by intro t k; exact XS.iconst X7.here hx rfl (hb hby d10_46) k) ?_
      refine go (T' := T7) (f' := (mkF m 51 #[.val (.ref a0), .val (.ref a1), .val (.ref a1)] [(.int (1 : Int32))])) (by intro t k; exact XS.goto X7.here hx rfl (pc0 := 47) (pc' := 51) rfl (hb hby d10_47) (by decide) (by decide) k) ?_
      have ez8 : z8 = (1 : Int32) := (hz8).trans (if_neg hc43)
      subst ez8
      exact J43
  · refine go (T' := T4) (f' := (mkF m 50 #[.val (.ref a0), .val (.ref a1), .val (.ref a1)] [])) (by intro t k; exact XS.icmpYes X4.here hx rfl (pc0 := 29) (pc' := 50) rfl (hb hby d10_29) rfl (feq hc29).2 (by decide) (by decide) k) ?_
    refine go (T' := T4) (f' := (mkF m 51 #[.val (.ref a0), .val (.ref a1), .val (.ref a1)] [(.int (0 : Int32))])) (by intro t k; exact XS.iconst X4.here hx rfl (hb hby d10_50) k) ?_
    refine retZ X4 hx (t := .boolean) Bd.returns (by simp) (hb hby d10_51) hlk (by decide) (by decide) ?_
    show Q10n22 Z a0 a1 cs x y s1 s2 vv ww b0 b1 d0 d1 h0 n0 _ T4.heap _
    rw [e4]
    have hv' : (nar .boolean (0 : Int32)) = (if x = y then (if b0 = d0 then (if b1 = d1 then (1 : Int32) else (0 : Int32)) else (0 : Int32)) else (0 : Int32)) := by
      first | rfl | ((repeat' split) <;> first | rfl | contradiction | (simp_all; done))
    have hv : (some (.int (nar .boolean (0 : Int32))) : Option Value) = some (.int (if x = y then (if b0 = d0 then (if b1 = d1 then (1 : Int32) else (0 : Int32)) else (0 : Int32)) else (0 : Int32))) := congrArg (fun z => (some (.int z) : Option Value)) hv'
    exact ⟨hv, N0, rfl⟩
def own_lo (c : Int32) : Prop := 0 ≤ c.toInt ∧ c.toInt ≤ 255
theorem own_ofN {c : Int32} (h : own_lo c) : ∃ n : Fin 256, c = Int32.ofNat n.1 := by
  refine ⟨⟨c.toInt.toNat, ?_⟩, ?_⟩
  · unfold own_lo at h; omega
  · show c = Int32.ofNat c.toInt.toNat
    rw [← Int32.ofInt_eq_ofNat, Int.toNat_of_nonneg h.1, Int32.ofInt_toInt]
theorem own_c5 {z x : Int32} (h : z = (((x &&& (255 : Int32))).toUInt32.toUInt16.toUInt32.toInt32)) : own_lo z := by
  have hx := c_and x 255 (by decide)
  have e1 : (255 : Int32).toInt = 255 := rfl
  obtain ⟨n, hn⟩ := own_ofN (c := x &&& 255) ⟨hx.1, by omega⟩
  rw [hn] at h
  rw [h]
  clear hn h hx
  revert n
  unfold own_lo
  decide +kernel
theorem own_ci {z x y : Int32} {q : Prop} [Decidable q] (h : z = if q then y else (((x &&& (255 : Int32))).toUInt32.toUInt16.toUInt32.toInt32)) (hy : own_lo y) : own_lo z := by
  by_cases c : q
  · rw [if_pos c] at h; rw [h]; exact hy
  · rw [if_neg c] at h; exact own_c5 h
theorem own_nc {c : Int32} (h : own_lo c) : ¬ ((255 : Int32) < nar .char c) := by
  obtain ⟨n, rfl⟩ := own_ofN h
  clear h
  revert n
  decide +kernel
theorem own_len {z y : Int32} (h : z = (1 : Int32) + (y &&& (1 : Int32))) : z = 1 ∨ z = 2 := by
  have hx := c_and y 1 (by decide)
  generalize y &&& (1 : Int32) = w at h hx
  have e1 : (1 : Int32).toInt = 1 := rfl
  have b : ∀ k : Int, w.toInt = k → w = Int32.ofInt k := fun k q => by rw [← q, Int32.ofInt_toInt]
  have : w.toInt = 0 ∨ w.toInt = 1 := by omega
  rcases this with q | q
  · rw [h, b _ q]; exact Or.inl rfl
  · rw [h, b _ q]; exact Or.inr rfl
theorem own_kind {w y : Int32} (h : w = (y &&& (3 : Int32))) : w = 0 ∨ w = 1 ∨ w = 2 ∨ w = 3 := by
  have hx := c_and y 3 (by decide)
  rw [← h] at hx
  have e1 : (3 : Int32).toInt = 3 := rfl
  have b : ∀ k : Int, w.toInt = k → w = Int32.ofInt k := fun k q => by rw [← q, Int32.ofInt_toInt]
  have : w.toInt = 0 ∨ w.toInt = 1 ∨ w.toInt = 2 ∨ w.toInt = 3 := by omega
  rcases this with q | q | q | q
  · exact Or.inl (b _ q)
  · exact Or.inr (Or.inl (b _ q))
  · exact Or.inr (Or.inr (Or.inl (b _ q)))
  · exact Or.inr (Or.inr (Or.inr (b _ q)))
theorem own_nn {w y : Int32} (h : w = (y &&& (2147483647 : Int32))) : ¬ (w < (0 : Int32)) := by
  have hx := c_and y 2147483647 (by decide)
  rw [← h] at hx
  rw [Int32.lt_iff_toInt_lt]
  have e1 : (0 : Int32).toInt = 0 := rfl
  omega
theorem own_ni {w x y : Int32} {q : Prop} [Decidable q] (h : w = if q then x else (y &&& (2147483647 : Int32))) (hy : ¬ (x < (0 : Int32))) : ¬ (w < (0 : Int32)) := by
  by_cases c : q
  · rw [if_pos c] at h; rw [h]; exact hy
  · rw [if_neg c] at h; exact own_nn h
def own_by (c : Int32) : Int32 := (nar .byte (((nar .char c)).toInt8.toInt32))
theorem own_back : ∀ n : Fin 256, own_by (Int32.ofNat n.1) &&& 255 = Int32.ofNat n.1 := by decide +kernel
theorem own_inj {c d : Int32} (hc : own_lo c) (hd : own_lo d) : (own_by c = own_by d) = (c = d) := by
  refine propext ⟨fun h => ?_, fun h => by rw [h]⟩
  obtain ⟨n, rfl⟩ := own_ofN hc
  obtain ⟨m, rfl⟩ := own_ofN hd
  rw [← own_back n, ← own_back m, h]
theorem own_law1 {a b c d : Int32} (hc : own_lo c) (hd : own_lo d) : (if a = b then (if own_by c = own_by d then (1 : Int32) else (0 : Int32)) else (0 : Int32)) = (if a = b then (if c = d then (1 : Int32) else (0 : Int32)) else (0 : Int32)) := by
  simp only [own_inj hc hd]
theorem own_law1' {a b c d : Int32} (hc : own_lo c) (hd : own_lo d) : (if b = a then (if own_by d = own_by c then (1 : Int32) else (0 : Int32)) else (0 : Int32)) = (if a = b then (if c = d then (1 : Int32) else (0 : Int32)) else (0 : Int32)) := by
  simp only [own_inj hd hc, eq_comm (a := b), eq_comm (a := d)]
theorem own_law2 {a b c d c' d' : Int32} (hc : own_lo c) (hd : own_lo d) (hc' : own_lo c') (hd' : own_lo d') : (if a = b then (if own_by c = own_by d then (if own_by c' = own_by d' then (1 : Int32) else (0 : Int32)) else (0 : Int32)) else (0 : Int32)) = (if a = b then (if c = d then (if c' = d' then (1 : Int32) else (0 : Int32)) else (0 : Int32)) else (0 : Int32)) := by
  simp only [own_inj hc hd, own_inj hc' hd']
theorem own_law2' {a b c d c' d' : Int32} (hc : own_lo c) (hd : own_lo d) (hc' : own_lo c') (hd' : own_lo d') : (if b = a then (if own_by d = own_by c then (if own_by d' = own_by c' then (1 : Int32) else (0 : Int32)) else (0 : Int32)) else (0 : Int32)) = (if a = b then (if c = d then (if c' = d' then (1 : Int32) else (0 : Int32)) else (0 : Int32)) else (0 : Int32)) := by
  simp only [own_inj hd hc, own_inj hd' hc', eq_comm (a := b), eq_comm (a := d), eq_comm (a := d')]
theorem pd_28ICC29Ljava2flang2fString3b : parseMethodDescriptor "(ICC)Ljava/lang/String;" = some ⟨[.int, .char, .char], some (.object "java/lang/String")⟩ := by decide +kernel
theorem pd_28Ljava2flang2fString3bI29V : parseMethodDescriptor "(Ljava/lang/String;I)V" = some ⟨[(.object "java/lang/String"), .int], none⟩ := by decide +kernel
theorem ef_0 (m : MethodId) (x0 : Int32) (x1 : Int32) (x2 : Int32) (x3 : Int32) (x4 : Int32) : entryFrame m #[(.int x0), (.int x1), (.int x2), (.int x3), (.int x4)] maxLocals = mkF m 0 #[.val (.int x0), .val (.int x1), .val (.int x2), .val (.int x3), .val (.int x4), .unset, .unset, .unset, .unset, .unset, .unset, .unset, .unset, .unset, .unset, .unset, .unset, .unset, .unset] [] := by first | (simp [entryFrame, mkF, argsToLocals, Value.category, maxLocals]; done) | rfl
def Q0 (Z : State) (p0 : Int32) (p1 : Int32) (p2 : Int32) (p3 : Int32) (p4 : Int32) (cs : Int32) (h0 : Heap) (n0 : Nat) (v : Option Value) (h : Heap) (L : List Loc) : Prop := v = some (.int (1 : Int32)) ∧ Fr n0 L
set_option maxRecDepth 65536 in
set_option maxHeartbeats 40000000 in
theorem rm0 (l : Launch) (Z : State) (aw : Array Value) (hw : ∀ d ∈ tables_1, d.before aw Z = true) (ws : List Jvm.Cond) (p0 : Int32) (p1 : Int32) (p2 : Int32) (p3 : Int32) (p4 : Int32) (cs : Int32) (h0 : Heap) (n0 : Nat) (Z0 : n0 ≤ h0.size) (O0 : Old Z n0 h0) (S_cs : Sta Z Z.heap "java/lang/String" "COMPACT_STRINGS" "Z" (.int cs)) (hcs : ¬ (cs = (0 : Int32))) :
    MetFree l x (head1 (Jvm.Cond.code x code maxLocals ret :: ws) room_1) (fun a U => a = #[(.int p0), (.int p1), (.int p2), (.int p3), (.int p4)] ∧ Z.Warmed39 U.vm ∧ U.heap = h0) (fun _ _ _ _ _ => True) (fun _ U o U' => ∃ v L, o = .returned v ∧ Q0 Z p0 p1 p2 p3 p4 cs h0 n0 v U'.heap L ∧ FrameEnd U o U' L room_1.cells room_1.slots) := by
  refine MetFree.of_bodySF (plainFor_of_name pn_1) hisR ?_
  intro p e s m args below meth c s₁ Bd hml0 hP hK
  obtain ⟨rfl, hZ, hh⟩ := hP
  have hx := Bd.exec
  have hby := Bd.bytes
  have hml : c.maxLocals = 19 := hml0
  have hown : s.vm.findClass "com/example/backchain/backchain/model/PredicateEqualsPinLaw" = some m.cls := findClass_of_methodNamed Bd.named
  have hnm := (name_of_methodNamed Bd.named Bd.method).1
  have hlk : meth.locks = false := BodyLoose.notSynchronized Bd
  have X0 : Stand p l e room_1 s m #[(.int p0), (.int p1), (.int p2), (.int p3), (.int p4)] below meth c s₁ [] 0 0 := Stand.of_body Bd
  have e0 : s₁.heap = h0 := by rw [← hh, Bd.state]; rfl
  have N0 := Fr.nil n0
  show Run p e s below (Q0 Z p0 p1 p2 p3 p4 cs h0 n0) room_1.cells room_1.slots s₁ (entryFrame m #[(.int p0), (.int p1), (.int p2), (.int p3), (.int p4)] maxLocals)
  rw [ef_0]
  show Run _ _ _ _ _ _ _ s₁ (mkF m 0 #[.val (.int p0), .val (.int p1), .val (.int p2), .val (.int p3), .val (.int p4), .unset, .unset, .unset, .unset, .unset, .unset, .unset, .unset, .unset, .unset, .unset, .unset, .unset, .unset] [])
  refine go (T' := s₁) (f' := (mkF m 1 #[.val (.int p0), .val (.int p1), .val (.int p2), .val (.int p3), .val (.int p4), .unset, .unset, .unset, .unset, .unset, .unset, .unset, .unset, .unset, .unset, .unset, .unset, .unset, .unset] [(.int p0)])) (by intro t k; exact XS.iloadN X0.here hx rfl (hb hby at_0) rfl k) ?_
  refine go (T' := s₁) (f' := (mkF m 4 #[.val (.int p0), .val (.int p1), .val (.int p2), .val (.int p3), .val (.int p4), .unset, .unset, .unset, .unset, .unset, .unset, .unset, .unset, .unset, .unset, .unset, .unset, .unset, .unset] [(.int (255 : Int32)), (.int p0)])) (by intro t k; exact XS.sipush X0.here hx rfl (hb hby at_1) k) ?_
  refine go (T' := s₁) (f' := (mkF m 5 #[.val (.int p0), .val (.int p1), .val (.int p2), .val (.int p3), .val (.int p4), .unset, .unset, .unset, .unset, .unset, .unset, .unset, .unset, .unset, .unset, .unset, .unset, .unset, .unset] [(.int (p0 &&& (255 : Int32)))])) (by intro t k; exact XS.iand X0.here hx rfl (hb hby at_4) rfl k) ?_
  refine go (T' := s₁) (f' := (mkF m 6 #[.val (.int p0), .val (.int p1), .val (.int p2), .val (.int p3), .val (.int p4), .unset, .unset, .unset, .unset, .unset, .unset, .unset, .unset, .unset, .unset, .unset, .unset, .unset, .unset] [(.int (((p0 &&& (255 : Int32))).toUInt32.toUInt16.toUInt32.toInt32))])) (by intro t k; exact XS.i2c X0.here hx rfl (hb hby at_5) rfl k) ?_
  refine go (T' := s₁) (f' := (mkF m 8 #[.val (.int p0), .val (.int p1), .val (.int p2), .val (.int p3), .val (.int p4), .val (.int (((p0 &&& (255 : Int32))).toUInt32.toUInt16.toUInt32.toInt32)), .unset, .unset, .unset, .unset, .unset, .unset, .unset, .unset, .unset, .unset, .unset, .unset, .unset] [])) (by intro t k; exact XS.istore X0.here hx rfl (hb hby at_6) rfl (l' := #[.val (.int p0), .val (.int p1), .val (.int p2), .val (.int p3), .val (.int p4), .val (.int (((p0 &&& (255 : Int32))).toUInt32.toUInt16.toUInt32.toInt32)), .unset, .unset, .unset, .unset, .unset, .unset, .unset, .unset, .unset, .unset, .unset, .unset, .unset]) rfl k) ?_
  refine go (T' := s₁) (f' := (mkF m 9 #[.val (.int p0), .val (.int p1), .val (.int p2), .val (.int p3), .val (.int p4), .val (.int (((p0 &&& (255 : Int32))).toUInt32.toUInt16.toUInt32.toInt32)), .unset, .unset, .unset, .unset, .unset, .unset, .unset, .unset, .unset, .unset, .unset, .unset, .unset] [(.int p0)])) (by intro t k; exact XS.iloadN X0.here hx rfl (hb hby at_8) rfl k) ?_
  refine go (T' := s₁) (f' := (mkF m 11 #[.val (.int p0), .val (.int p1), .val (.int p2), .val (.int p3), .val (.int p4), .val (.int (((p0 &&& (255 : Int32))).toUInt32.toUInt16.toUInt32.toInt32)), .unset, .unset, .unset, .unset, .unset, .unset, .unset, .unset, .unset, .unset, .unset, .unset, .unset] [(.int (8 : Int32)), (.int p0)])) (by intro t k; exact XS.bipush X0.here hx rfl (hb hby at_9) k) ?_
  refine go (T' := s₁) (f' := (mkF m 12 #[.val (.int p0), .val (.int p1), .val (.int p2), .val (.int p3), .val (.int p4), .val (.int (((p0 &&& (255 : Int32))).toUInt32.toUInt16.toUInt32.toInt32)), .unset, .unset, .unset, .unset, .unset, .unset, .unset, .unset, .unset, .unset, .unset, .unset, .unset] [(.int (((p0).toUInt32 >>> ((8 : Int32) &&& 31).toUInt32).toInt32))])) (by intro t k; exact XS.iushr X0.here hx rfl (hb hby at_11) rfl k) ?_
  refine go (T' := s₁) (f' := (mkF m 15 #[.val (.int p0), .val (.int p1), .val (.int p2), .val (.int p3), .val (.int p4), .val (.int (((p0 &&& (255 : Int32))).toUInt32.toUInt16.toUInt32.toInt32)), .unset, .unset, .unset, .unset, .unset, .unset, .unset, .unset, .unset, .unset, .unset, .unset, .unset] [(.int (255 : Int32)), (.int (((p0).toUInt32 >>> ((8 : Int32) &&& 31).toUInt32).toInt32))])) (by intro t k; exact XS.sipush X0.here hx rfl (hb hby at_12) k) ?_
  refine go (T' := s₁) (f' := (mkF m 16 #[.val (.int p0), .val (.int p1), .val (.int p2), .val (.int p3), .val (.int p4), .val (.int (((p0 &&& (255 : Int32))).toUInt32.toUInt16.toUInt32.toInt32)), .unset, .unset, .unset, .unset, .unset, .unset, .unset, .unset, .unset, .unset, .unset, .unset, .unset] [(.int ((((p0).toUInt32 >>> ((8 : Int32) &&& 31).toUInt32).toInt32) &&& (255 : Int32)))])) (by intro t k; exact XS.iand X0.here hx rfl (hb hby at_15) rfl k) ?_
  refine go (T' := s₁) (f' := (mkF m 17 #[.val (.int p0), .val (.int p1), .val (.int p2), .val (.int p3), .val (.int p4), .val (.int (((p0 &&& (255 : Int32))).toUInt32.toUInt16.toUInt32.toInt32)), .unset, .unset, .unset, .unset, .unset, .unset, .unset, .unset, .unset, .unset, .unset, .unset, .unset] [(.int ((((((p0).toUInt32 >>> ((8 : Int32) &&& 31).toUInt32).toInt32) &&& (255 : Int32))).toUInt32.toUInt16.toUInt32.toInt32))])) (by intro t k; exact XS.i2c X0.here hx rfl (hb hby at_16) rfl k) ?_
  refine go (T' := s₁) (f' := (mkF m 19 #[.val (.int p0), .val (.int p1), .val (.int p2), .val (.int p3), .val (.int p4), .val (.int (((p0 &&& (255 : Int32))).toUInt32.toUInt16.toUInt32.toInt32)), .val (.int ((((((p0).toUInt32 >>> ((8 : Int32) &&& 31).toUInt32).toInt32) &&& (255 : Int32))).toUInt32.toUInt16.toUInt32.toInt32)), .unset, .unset, .unset, .unset, .unset, .unset, .unset, .unset, .unset, .unset, .unset, .unset] [])) (by intro t k; exact XS.istore X0.here hx rfl (hb hby at_17) rfl (l' := #[.val (.int p0), .val (.int p1), .val (.int p2), .val (.int p3), .val (.int p4), .val (.int (((p0 &&& (255 : Int32))).toUInt32.toUInt16.toUInt32.toInt32)), .val (.int ((((((p0).toUInt32 >>> ((8 : Int32) &&& 31).toUInt32).toInt32) &&& (255 : Int32))).toUInt32.toUInt16.toUInt32.toInt32)), .unset, .unset, .unset, .unset, .unset, .unset, .unset, .unset, .unset, .unset, .unset, .unset]) rfl k) ?_
  obtain ⟨w5, hw5⟩ : ∃ z : Int32, z = (((p0 &&& (255 : Int32))).toUInt32.toUInt16.toUInt32.toInt32) := ⟨_, rfl⟩
  rw [← hw5]
  obtain ⟨w6, hw6⟩ : ∃ z : Int32, z = ((((((p0).toUInt32 >>> ((8 : Int32) &&& 31).toUInt32).toInt32) &&& (255 : Int32))).toUInt32.toUInt16.toUInt32.toInt32) := ⟨_, rfl⟩
  rw [← hw6]
  show Run _ _ _ _ _ _ _ s₁ (mkF m 19 #[.val (.int p0), .val (.int p1), .val (.int p2), .val (.int p3), .val (.int p4), .val (.int w5), .val (.int w6), .unset, .unset, .unset, .unset, .unset, .unset, .unset, .unset, .unset, .unset, .unset, .unset] [])
  refine go (T' := s₁) (f' := (mkF m 21 #[.val (.int p0), .val (.int p1), .val (.int p2), .val (.int p3), .val (.int p4), .val (.int w5), .val (.int w6), .unset, .unset, .unset, .unset, .unset, .unset, .unset, .unset, .unset, .unset, .unset, .unset] [(.int p4)])) (by intro t k; exact XS.iload X0.here hx rfl (hb hby at_19) rfl k) ?_
  refine go (T' := s₁) (f' := (mkF m 22 #[.val (.int p0), .val (.int p1), .val (.int p2), .val (.int p3), .val (.int p4), .val (.int w5), .val (.int w6), .unset, .unset, .unset, .unset, .unset, .unset, .unset, .unset, .unset, .unset, .unset, .unset] [(.int (2 : Int32)), (.int p4)])) (by intro t k; exact XS.iconst X0.here hx rfl (hb hby at_21) k) ?_
  refine go (T' := s₁) (f' := (mkF m 23 #[.val (.int p0), .val (.int p1), .val (.int p2), .val (.int p3), .val (.int p4), .val (.int w5), .val (.int w6), .unset, .unset, .unset, .unset, .unset, .unset, .unset, .unset, .unset, .unset, .unset, .unset] [(.int (p4 &&& (2 : Int32)))])) (by intro t k; exact XS.iand X0.here hx rfl (hb hby at_22) rfl k) ?_
  obtain ⟨z1, hz1⟩ : ∃ z : Int32, z = (if (p4 &&& (2 : Int32)) = (0 : Int32) then w5 else (((p1 &&& (255 : Int32))).toUInt32.toUInt16.toUInt32.toInt32)) := ⟨_, rfl⟩
  have J23 : Run p e s below (Q0 Z p0 p1 p2 p3 p4 cs h0 n0) room_1.cells room_1.slots s₁ (mkF m 37 #[.val (.int p0), .val (.int p1), .val (.int p2), .val (.int p3), .val (.int p4), .val (.int w5), .val (.int w6), .unset, .unset, .unset, .unset, .unset, .unset, .unset, .unset, .unset, .unset, .unset, .unset] [(.int z1)]) := by
    show Run _ _ _ _ _ _ _ s₁ (mkF m 37 #[.val (.int p0), .val (.int p1), .val (.int p2), .val (.int p3), .val (.int p4), .val (.int w5), .val (.int w6), .unset, .unset, .unset, .unset, .unset, .unset, .unset, .unset, .unset, .unset, .unset, .unset] [(.int z1)])
    refine go (T' := s₁) (f' := (mkF m 39 #[.val (.int p0), .val (.int p1), .val (.int p2), .val (.int p3), .val (.int p4), .val (.int w5), .val (.int w6), .val (.int z1), .unset, .unset, .unset, .unset, .unset, .unset, .unset, .unset, .unset, .unset, .unset] [])) (by intro t k; exact XS.istore X0.here hx rfl (hb hby at_37) rfl (l' := #[.val (.int p0), .val (.int p1), .val (.int p2), .val (.int p3), .val (.int p4), .val (.int w5), .val (.int w6), .val (.int z1), .unset, .unset, .unset, .unset, .unset, .unset, .unset, .unset, .unset, .unset, .unset]) rfl k) ?_
    refine go (T' := s₁) (f' := (mkF m 41 #[.val (.int p0), .val (.int p1), .val (.int p2), .val (.int p3), .val (.int p4), .val (.int w5), .val (.int w6), .val (.int z1), .unset, .unset, .unset, .unset, .unset, .unset, .unset, .unset, .unset, .unset, .unset] [(.int p4)])) (by intro t k; exact XS.iload X0.here hx rfl (hb hby at_39) rfl k) ?_
    refine go (T' := s₁) (f' := (mkF m 42 #[.val (.int p0), .val (.int p1), .val (.int p2), .val (.int p3), .val (.int p4), .val (.int w5), .val (.int w6), .val (.int z1), .unset, .unset, .unset, .unset, .unset, .unset, .unset, .unset, .unset, .unset, .unset] [(.int (4 : Int32)), (.int p4)])) (by intro t k; exact XS.iconst X0.here hx rfl (hb hby at_41) k) ?_
    refine go (T' := s₁) (f' := (mkF m 43 #[.val (.int p0), .val (.int p1), .val (.int p2), .val (.int p3), .val (.int p4), .val (.int w5), .val (.int w6), .val (.int z1), .unset, .unset, .unset, .unset, .unset, .unset, .unset, .unset, .unset, .unset, .unset] [(.int (p4 &&& (4 : Int32)))])) (by intro t k; exact XS.iand X0.here hx rfl (hb hby at_42) rfl k) ?_
    obtain ⟨z2, hz2⟩ : ∃ z : Int32, z = (if (p4 &&& (4 : Int32)) = (0 : Int32) then w6 else ((((((p1).toUInt32 >>> ((8 : Int32) &&& 31).toUInt32).toInt32) &&& (255 : Int32))).toUInt32.toUInt16.toUInt32.toInt32)) := ⟨_, rfl⟩
    have J43 : Run p e s below (Q0 Z p0 p1 p2 p3 p4 cs h0 n0) room_1.cells room_1.slots s₁ (mkF m 60 #[.val (.int p0), .val (.int p1), .val (.int p2), .val (.int p3), .val (.int p4), .val (.int w5), .val (.int w6), .val (.int z1), .unset, .unset, .unset, .unset, .unset, .unset, .unset, .unset, .unset, .unset, .unset] [(.int z2)]) := by
      show Run _ _ _ _ _ _ _ s₁ (mkF m 60 #[.val (.int p0), .val (.int p1), .val (.int p2), .val (.int p3), .val (.int p4), .val (.int w5), .val (.int w6), .val (.int z1), .unset, .unset, .unset, .unset, .unset, .unset, .unset, .unset, .unset, .unset, .unset] [(.int z2)])
      refine go (T' := s₁) (f' := (mkF m 62 #[.val (.int p0), .val (.int p1), .val (.int p2), .val (.int p3), .val (.int p4), .val (.int w5), .val (.int w6), .val (.int z1), .val (.int z2), .unset, .unset, .unset, .unset, .unset, .unset, .unset, .unset, .unset, .unset] [])) (by intro t k; exact XS.istore X0.here hx rfl (hb hby at_60) rfl (l' := #[.val (.int p0), .val (.int p1), .val (.int p2), .val (.int p3), .val (.int p4), .val (.int w5), .val (.int w6), .val (.int z1), .val (.int z2), .unset, .unset, .unset, .unset, .unset, .unset, .unset, .unset, .unset, .unset]) rfl k) ?_
      refine go (T' := s₁) (f' := (mkF m 63 #[.val (.int p0), .val (.int p1), .val (.int p2), .val (.int p3), .val (.int p4), .val (.int w5), .val (.int w6), .val (.int z1), .val (.int z2), .unset, .unset, .unset, .unset, .unset, .unset, .unset, .unset, .unset, .unset] [(.int (1 : Int32))])) (by intro t k; exact XS.iconst X0.here hx rfl (hb hby at_62) k) ?_
      refine go (T' := s₁) (f' := (mkF m 65 #[.val (.int p0), .val (.int p1), .val (.int p2), .val (.int p3), .val (.int p4), .val (.int w5), .val (.int w6), .val (.int z1), .val (.int z2), .unset, .unset, .unset, .unset, .unset, .unset, .unset, .unset, .unset, .unset] [(.int p4), (.int (1 : Int32))])) (by intro t k; exact XS.iload X0.here hx rfl (hb hby at_63) rfl k) ?_
      refine go (T' := s₁) (f' := (mkF m 66 #[.val (.int p0), .val (.int p1), .val (.int p2), .val (.int p3), .val (.int p4), .val (.int w5), .val (.int w6), .val (.int z1), .val (.int z2), .unset, .unset, .unset, .unset, .unset, .unset, .unset, .unset, .unset, .unset] [(.int (1 : Int32)), (.int p4), (.int (1 : Int32))])) (by intro t k; exact XS.iconst X0.here hx rfl (hb hby at_65) k) ?_
      refine go (T' := s₁) (f' := (mkF m 67 #[.val (.int p0), .val (.int p1), .val (.int p2), .val (.int p3), .val (.int p4), .val (.int w5), .val (.int w6), .val (.int z1), .val (.int z2), .unset, .unset, .unset, .unset, .unset, .unset, .unset, .unset, .unset, .unset] [(.int (p4 &&& (1 : Int32))), (.int (1 : Int32))])) (by intro t k; exact XS.iand X0.here hx rfl (hb hby at_66) rfl k) ?_
      refine go (T' := s₁) (f' := (mkF m 68 #[.val (.int p0), .val (.int p1), .val (.int p2), .val (.int p3), .val (.int p4), .val (.int w5), .val (.int w6), .val (.int z1), .val (.int z2), .unset, .unset, .unset, .unset, .unset, .unset, .unset, .unset, .unset, .unset] [(.int ((1 : Int32) + (p4 &&& (1 : Int32))))])) (by intro t k; exact XS.iadd X0.here hx rfl (hb hby at_67) rfl k) ?_
      refine go (T' := s₁) (f' := (mkF m 70 #[.val (.int p0), .val (.int p1), .val (.int p2), .val (.int p3), .val (.int p4), .val (.int w5), .val (.int w6), .val (.int z1), .val (.int z2), .val (.int ((1 : Int32) + (p4 &&& (1 : Int32)))), .unset, .unset, .unset, .unset, .unset, .unset, .unset, .unset, .unset] [])) (by intro t k; exact XS.istore X0.here hx rfl (hb hby at_68) rfl (l' := #[.val (.int p0), .val (.int p1), .val (.int p2), .val (.int p3), .val (.int p4), .val (.int w5), .val (.int w6), .val (.int z1), .val (.int z2), .val (.int ((1 : Int32) + (p4 &&& (1 : Int32)))), .unset, .unset, .unset, .unset, .unset, .unset, .unset, .unset, .unset]) rfl k) ?_
      refine go (T' := s₁) (f' := (mkF m 71 #[.val (.int p0), .val (.int p1), .val (.int p2), .val (.int p3), .val (.int p4), .val (.int w5), .val (.int w6), .val (.int z1), .val (.int z2), .val (.int ((1 : Int32) + (p4 &&& (1 : Int32)))), .unset, .unset, .unset, .unset, .unset, .unset, .unset, .unset, .unset] [(.int (1 : Int32))])) (by intro t k; exact XS.iconst X0.here hx rfl (hb hby at_70) k) ?_
      refine go (T' := s₁) (f' := (mkF m 73 #[.val (.int p0), .val (.int p1), .val (.int p2), .val (.int p3), .val (.int p4), .val (.int w5), .val (.int w6), .val (.int z1), .val (.int z2), .val (.int ((1 : Int32) + (p4 &&& (1 : Int32)))), .unset, .unset, .unset, .unset, .unset, .unset, .unset, .unset, .unset] [(.int p4), (.int (1 : Int32))])) (by intro t k; exact XS.iload X0.here hx rfl (hb hby at_71) rfl k) ?_
      refine go (T' := s₁) (f' := (mkF m 74 #[.val (.int p0), .val (.int p1), .val (.int p2), .val (.int p3), .val (.int p4), .val (.int w5), .val (.int w6), .val (.int z1), .val (.int z2), .val (.int ((1 : Int32) + (p4 &&& (1 : Int32)))), .unset, .unset, .unset, .unset, .unset, .unset, .unset, .unset, .unset] [(.int (3 : Int32)), (.int p4), (.int (1 : Int32))])) (by intro t k; exact XS.iconst X0.here hx rfl (hb hby at_73) k) ?_
      refine go (T' := s₁) (f' := (mkF m 75 #[.val (.int p0), .val (.int p1), .val (.int p2), .val (.int p3), .val (.int p4), .val (.int w5), .val (.int w6), .val (.int z1), .val (.int z2), .val (.int ((1 : Int32) + (p4 &&& (1 : Int32)))), .unset, .unset, .unset, .unset, .unset, .unset, .unset, .unset, .unset] [(.int (((p4).toUInt32 >>> ((3 : Int32) &&& 31).toUInt32).toInt32)), (.int (1 : Int32))])) (by intro t k; exact XS.iushr X0.here hx rfl (hb hby at_74) rfl k) ?_
      refine go (T' := s₁) (f' := (mkF m 76 #[.val (.int p0), .val (.int p1), .val (.int p2), .val (.int p3), .val (.int p4), .val (.int w5), .val (.int w6), .val (.int z1), .val (.int z2), .val (.int ((1 : Int32) + (p4 &&& (1 : Int32)))), .unset, .unset, .unset, .unset, .unset, .unset, .unset, .unset, .unset] [(.int (1 : Int32)), (.int (((p4).toUInt32 >>> ((3 : Int32) &&& 31).toUInt32).toInt32)), (.int (1 : Int32))])) (by intro t k; exact XS.iconst X0.here hx rfl (hb hby at_75) k) ?_
      refine go (T' := s₁) (f' := (mkF m 77 #[.val (.int p0), .val (.int p1), .val (.int p2), .val (.int p3), .val (.int p4), .val (.int w5), .val (.int w6), .val (.int z1), .val (.int z2), .val (.int ((1 : Int32) + (p4 &&& (1 : Int32)))), .unset, .unset, .unset, .unset, .unset, .unset, .unset, .unset, .unset] [(.int ((((p4).toUInt32 >>> ((3 : Int32) &&& 31).toUInt32).toInt32) &&& (1 : Int32))), (.int (1 : Int32))])) (by intro t k; exact XS.iand X0.here hx rfl (hb hby at_76) rfl k) ?_
      refine go (T' := s₁) (f' := (mkF m 78 #[.val (.int p0), .val (.int p1), .val (.int p2), .val (.int p3), .val (.int p4), .val (.int w5), .val (.int w6), .val (.int z1), .val (.int z2), .val (.int ((1 : Int32) + (p4 &&& (1 : Int32)))), .unset, .unset, .unset, .unset, .unset, .unset, .unset, .unset, .unset] [(.int ((1 : Int32) + ((((p4).toUInt32 >>> ((3 : Int32) &&& 31).toUInt32).toInt32) &&& (1 : Int32))))])) (by intro t k; exact XS.iadd X0.here hx rfl (hb hby at_77) rfl k) ?_
      refine go (T' := s₁) (f' := (mkF m 80 #[.val (.int p0), .val (.int p1), .val (.int p2), .val (.int p3), .val (.int p4), .val (.int w5), .val (.int w6), .val (.int z1), .val (.int z2), .val (.int ((1 : Int32) + (p4 &&& (1 : Int32)))), .val (.int ((1 : Int32) + ((((p4).toUInt32 >>> ((3 : Int32) &&& 31).toUInt32).toInt32) &&& (1 : Int32)))), .unset, .unset, .unset, .unset, .unset, .unset, .unset, .unset] [])) (by intro t k; exact XS.istore X0.here hx rfl (hb hby at_78) rfl (l' := #[.val (.int p0), .val (.int p1), .val (.int p2), .val (.int p3), .val (.int p4), .val (.int w5), .val (.int w6), .val (.int z1), .val (.int z2), .val (.int ((1 : Int32) + (p4 &&& (1 : Int32)))), .val (.int ((1 : Int32) + ((((p4).toUInt32 >>> ((3 : Int32) &&& 31).toUInt32).toInt32) &&& (1 : Int32)))), .unset, .unset, .unset, .unset, .unset, .unset, .unset, .unset]) rfl k) ?_
      have hc5 := own_c5 hw5
      have hc6 := own_c5 hw6
      have hc7 := own_ci hz1 hc5
      have hc8 := own_ci hz2 hc6
      obtain ⟨z3, hz3⟩ : ∃ z : Int32, z = ((1 : Int32) + (p4 &&& (1 : Int32))) := ⟨_, rfl⟩
      rw [← hz3]
      rcases (own_len hz3 : z3 = (1 : Int32) ∨ z3 = (2 : Int32)) with ez | ez
      · subst ez
        show Run _ _ _ _ _ _ _ s₁ (mkF m 80 #[.val (.int p0), .val (.int p1), .val (.int p2), .val (.int p3), .val (.int p4), .val (.int w5), .val (.int w6), .val (.int z1), .val (.int z2), .val (.int (1 : Int32)), .val (.int ((1 : Int32) + ((((p4).toUInt32 >>> ((3 : Int32) &&& 31).toUInt32).toInt32) &&& (1 : Int32)))), .unset, .unset, .unset, .unset, .unset, .unset, .unset, .unset] [])
        refine go (T' := s₁) (f' := (mkF m 82 #[.val (.int p0), .val (.int p1), .val (.int p2), .val (.int p3), .val (.int p4), .val (.int w5), .val (.int w6), .val (.int z1), .val (.int z2), .val (.int (1 : Int32)), .val (.int ((1 : Int32) + ((((p4).toUInt32 >>> ((3 : Int32) &&& 31).toUInt32).toInt32) &&& (1 : Int32)))), .unset, .unset, .unset, .unset, .unset, .unset, .unset, .unset] [(.int (1 : Int32))])) (by intro t k; exact XS.iload X0.here hx rfl (hb hby at_80) rfl k) ?_
        obtain ⟨z4, hz4⟩ : ∃ z : Int32, z = ((1 : Int32) + ((((p4).toUInt32 >>> ((3 : Int32) &&& 31).toUInt32).toInt32) &&& (1 : Int32))) := ⟨_, rfl⟩
        rw [← hz4]
        rcases (own_len hz4 : z4 = (1 : Int32) ∨ z4 = (2 : Int32)) with ez | ez
        · subst ez
          show Run _ _ _ _ _ _ _ s₁ (mkF m 82 #[.val (.int p0), .val (.int p1), .val (.int p2), .val (.int p3), .val (.int p4), .val (.int w5), .val (.int w6), .val (.int z1), .val (.int z2), .val (.int (1 : Int32)), .val (.int (1 : Int32)), .unset, .unset, .unset, .unset, .unset, .unset, .unset, .unset] [(.int (1 : Int32))])
          refine go (T' := s₁) (f' := (mkF m 84 #[.val (.int p0), .val (.int p1), .val (.int p2), .val (.int p3), .val (.int p4), .val (.int w5), .val (.int w6), .val (.int z1), .val (.int z2), .val (.int (1 : Int32)), .val (.int (1 : Int32)), .unset, .unset, .unset, .unset, .unset, .unset, .unset, .unset] [(.int w5), (.int (1 : Int32))])) (by intro t k; exact XS.iload X0.here hx rfl (hb hby at_82) rfl k) ?_
          refine go (T' := s₁) (f' := (mkF m 86 #[.val (.int p0), .val (.int p1), .val (.int p2), .val (.int p3), .val (.int p4), .val (.int w5), .val (.int w6), .val (.int z1), .val (.int z2), .val (.int (1 : Int32)), .val (.int (1 : Int32)), .unset, .unset, .unset, .unset, .unset, .unset, .unset, .unset] [(.int w6), (.int w5), (.int (1 : Int32))])) (by intro t k; exact XS.iload X0.here hx rfl (hb hby at_84) rfl k) ?_
          obtain ⟨_, _, ⟨T5, Lz5, kz5, nz5⟩, -, X5, ⟨Lc5, hQ5, lz5, yz5, zz5⟩, st5⟩ := Jvm.LawKit.callS X0 hx (y := (⟨"com/example/backchain/backchain/model/PredicateEqualsPinLaw", "makeName", "(ICC)Ljava/lang/String;"⟩ : MethodName)) hown (mvT hZ (hw _ (List.mem_of_getElem? (i := 0) rfl))) (mvT hZ (hw _ (List.mem_of_getElem? (i := 1) rfl))) (mvT hZ (hw _ (List.mem_of_getElem? (i := 2) rfl))) (mvT hZ (hw _ (List.mem_of_getElem? (i := 3) rfl))) (by decide) (backOf (W := 0) (rm1n1 l Z aw hw [] w5 w6 cs h0 n0 Z0 O0 S_cs hcs (own_nc hc5)) hZ (hw _ (List.mem_of_getElem? (i := 3) rfl)) (hw _ (List.mem_of_getElem? (i := 2) rfl)) (by decide) (by decide)) (g := (mkF m 86 #[.val (.int p0), .val (.int p1), .val (.int p2), .val (.int p3), .val (.int p4), .val (.int w5), .val (.int w6), .val (.int z1), .val (.int z2), .val (.int (1 : Int32)), .val (.int (1 : Int32)), .unset, .unset, .unset, .unset, .unset, .unset, .unset, .unset] [(.int w6), (.int w5), (.int (1 : Int32))])) rfl (by rw [hml]; rfl) (argsL := [(.int (1 : Int32)), (.int w5), (.int w6)]) (rest := []) (lenOf pd_28ICC29Ljava2flang2fString3b rfl) rfl (by show 2 * 0 + _ ≤ _; exact Nat.le_of_eq rfl) (hb hby at_86) (fun _ _ => ⟨rfl, e0, (by decide : 0 + 3 ≤ _), (by decide : 0 + 6 ≤ _)⟩)
          dsimp only [Pt.U, Pt.locs, Pt.cells, Pt.slots] at X5 lz5 yz5 zz5 st5 hQ5
          subst lz5 yz5 zz5
          obtain ⟨r5, rfl, sz5, N5q, K5, sb5, zb5, nrb5, E5, Fc5, Fv5, Ab5⟩ := hQ5
          have ge_r5 : n0 ≤ r5 := Nat.le_trans Z0 sz5
          have ge_sb5 : n0 ≤ sb5 := Nat.le_trans Z0 zb5
          have O5 : Old Z n0 T5.heap := O0.keep K5 all0
          have Z5 : n0 ≤ T5.heap.size := Nat.le_trans Z0 K5.1
          have N5 := Fr.app N0 N5q
          refine go st5 ?_
          show Run _ _ _ _ _ _ _ T5 (mkF m 89 #[.val (.int p0), .val (.int p1), .val (.int p2), .val (.int p3), .val (.int p4), .val (.int w5), .val (.int w6), .val (.int z1), .val (.int z2), .val (.int (1 : Int32)), .val (.int (1 : Int32)), .unset, .unset, .unset, .unset, .unset, .unset, .unset, .unset] [(.ref r5)])
          refine go (T' := T5) (f' := (mkF m 91 #[.val (.int p0), .val (.int p1), .val (.int p2), .val (.int p3), .val (.int p4), .val (.int w5), .val (.int w6), .val (.int z1), .val (.int z2), .val (.int (1 : Int32)), .val (.int (1 : Int32)), .val (.ref r5), .unset, .unset, .unset, .unset, .unset, .unset, .unset] [])) (by intro t k; exact XS.astore X5.here hx rfl (hb hby at_89) rfl rfl (l' := #[.val (.int p0), .val (.int p1), .val (.int p2), .val (.int p3), .val (.int p4), .val (.int w5), .val (.int w6), .val (.int z1), .val (.int z2), .val (.int (1 : Int32)), .val (.int (1 : Int32)), .val (.ref r5), .unset, .unset, .unset, .unset, .unset, .unset, .unset]) rfl k) ?_
          refine go (T' := T5) (f' := (mkF m 93 #[.val (.int p0), .val (.int p1), .val (.int p2), .val (.int p3), .val (.int p4), .val (.int w5), .val (.int w6), .val (.int z1), .val (.int z2), .val (.int (1 : Int32)), .val (.int (1 : Int32)), .val (.ref r5), .unset, .unset, .unset, .unset, .unset, .unset, .unset] [(.int (1 : Int32))])) (by intro t k; exact XS.iload X5.here hx rfl (hb hby at_91) rfl k) ?_
          refine go (T' := T5) (f' := (mkF m 95 #[.val (.int p0), .val (.int p1), .val (.int p2), .val (.int p3), .val (.int p4), .val (.int w5), .val (.int w6), .val (.int z1), .val (.int z2), .val (.int (1 : Int32)), .val (.int (1 : Int32)), .val (.ref r5), .unset, .unset, .unset, .unset, .unset, .unset, .unset] [(.int z1), (.int (1 : Int32))])) (by intro t k; exact XS.iload X5.here hx rfl (hb hby at_93) rfl k) ?_
          refine go (T' := T5) (f' := (mkF m 97 #[.val (.int p0), .val (.int p1), .val (.int p2), .val (.int p3), .val (.int p4), .val (.int w5), .val (.int w6), .val (.int z1), .val (.int z2), .val (.int (1 : Int32)), .val (.int (1 : Int32)), .val (.ref r5), .unset, .unset, .unset, .unset, .unset, .unset, .unset] [(.int z2), (.int z1), (.int (1 : Int32))])) (by intro t k; exact XS.iload X5.here hx rfl (hb hby at_95) rfl k) ?_
          obtain ⟨_, _, ⟨T6, Lz6, kz6, nz6⟩, -, X6, ⟨Lc6, hQ6, lz6, yz6, zz6⟩, st6⟩ := Jvm.LawKit.callS X5 hx (y := (⟨"com/example/backchain/backchain/model/PredicateEqualsPinLaw", "makeName", "(ICC)Ljava/lang/String;"⟩ : MethodName)) hown (mvT hZ (hw _ (List.mem_of_getElem? (i := 0) rfl))) (mvT hZ (hw _ (List.mem_of_getElem? (i := 1) rfl))) (mvT hZ (hw _ (List.mem_of_getElem? (i := 2) rfl))) (mvT hZ (hw _ (List.mem_of_getElem? (i := 3) rfl))) (by decide) (backOf (W := 0) (rm1n1 l Z aw hw [] z1 z2 cs T5.heap n0 Z5 O5 S_cs hcs (own_nc hc7)) hZ (hw _ (List.mem_of_getElem? (i := 3) rfl)) (hw _ (List.mem_of_getElem? (i := 2) rfl)) (by decide) (by decide)) (g := (mkF m 97 #[.val (.int p0), .val (.int p1), .val (.int p2), .val (.int p3), .val (.int p4), .val (.int w5), .val (.int w6), .val (.int z1), .val (.int z2), .val (.int (1 : Int32)), .val (.int (1 : Int32)), .val (.ref r5), .unset, .unset, .unset, .unset, .unset, .unset, .unset] [(.int z2), (.int z1), (.int (1 : Int32))])) rfl (by rw [hml]; rfl) (argsL := [(.int (1 : Int32)), (.int z1), (.int z2)]) (rest := []) (lenOf pd_28ICC29Ljava2flang2fString3b rfl) rfl (by show 2 * 0 + _ ≤ _; exact Nat.le_of_eq rfl) (hb hby at_97) (fun _ _ => ⟨rfl, rfl, (by decide : 3 + 3 ≤ _), (by decide : 6 + 6 ≤ _)⟩)
          dsimp only [Pt.U, Pt.locs, Pt.cells, Pt.slots] at X6 lz6 yz6 zz6 st6 hQ6
          subst lz6 yz6 zz6
          obtain ⟨r6, rfl, sz6, N6q, K6, sb6, zb6, nrb6, E6, Fc6, Fv6, Ab6⟩ := hQ6
          have ne_r5_r6 : r5 ≠ r6 := Nat.ne_of_lt (Nat.lt_of_lt_of_le E5.lt sz6)
          have ne_sb5_r6 : sb5 ≠ r6 := Nat.ne_of_lt (Nat.lt_of_lt_of_le Ab5.lt sz6)
          have ge_r6 : n0 ≤ r6 := Nat.le_trans Z5 sz6
          have ne_r5_sb6 : r5 ≠ sb6 := Nat.ne_of_lt (Nat.lt_of_lt_of_le E5.lt zb6)
          have ne_sb5_sb6 : sb5 ≠ sb6 := Nat.ne_of_lt (Nat.lt_of_lt_of_le Ab5.lt zb6)
          have ge_sb6 : n0 ≤ sb6 := Nat.le_trans Z5 zb6
          have E6_r5 := Exa.keep E5 K6
          have F6_r5_coder := Fld.keep Fc5 K6 nin0
          have F6_r5_value := Fld.keep Fv5 K6 nin0
          have A6_sb5 := Ary.keep Ab5 K6 nin0
          have O6 : Old Z n0 T6.heap := O5.keep K6 all0
          have Z6 : n0 ≤ T6.heap.size := Nat.le_trans Z5 K6.1
          have N6 := Fr.app N5 N6q
          refine go st6 ?_
          show Run _ _ _ _ _ _ _ T6 (mkF m 100 #[.val (.int p0), .val (.int p1), .val (.int p2), .val (.int p3), .val (.int p4), .val (.int w5), .val (.int w6), .val (.int z1), .val (.int z2), .val (.int (1 : Int32)), .val (.int (1 : Int32)), .val (.ref r5), .unset, .unset, .unset, .unset, .unset, .unset, .unset] [(.ref r6)])
          refine go (T' := T6) (f' := (mkF m 102 #[.val (.int p0), .val (.int p1), .val (.int p2), .val (.int p3), .val (.int p4), .val (.int w5), .val (.int w6), .val (.int z1), .val (.int z2), .val (.int (1 : Int32)), .val (.int (1 : Int32)), .val (.ref r5), .val (.ref r6), .unset, .unset, .unset, .unset, .unset, .unset] [])) (by intro t k; exact XS.astore X6.here hx rfl (hb hby at_100) rfl rfl (l' := #[.val (.int p0), .val (.int p1), .val (.int p2), .val (.int p3), .val (.int p4), .val (.int w5), .val (.int w6), .val (.int z1), .val (.int z2), .val (.int (1 : Int32)), .val (.int (1 : Int32)), .val (.ref r5), .val (.ref r6), .unset, .unset, .unset, .unset, .unset, .unset]) rfl k) ?_
          refine go (T' := T6) (f' := (mkF m 103 #[.val (.int p0), .val (.int p1), .val (.int p2), .val (.int p3), .val (.int p4), .val (.int w5), .val (.int w6), .val (.int z1), .val (.int z2), .val (.int (1 : Int32)), .val (.int (1 : Int32)), .val (.ref r5), .val (.ref r6), .unset, .unset, .unset, .unset, .unset, .unset] [(.int p2)])) (by intro t k; exact XS.iloadN X6.here hx rfl (hb hby at_102) rfl k) ?_
          refine go (T' := T6) (f' := (mkF m 105 #[.val (.int p0), .val (.int p1), .val (.int p2), .val (.int p3), .val (.int p4), .val (.int w5), .val (.int w6), .val (.int z1), .val (.int z2), .val (.int (1 : Int32)), .val (.int (1 : Int32)), .val (.ref r5), .val (.ref r6), .unset, .unset, .unset, .unset, .unset, .unset] [(.int (2147483647 : Int32)), (.int p2)])) (by intro t k; exact X6.ldcInt hx hown (mvT hZ (hw _ (List.mem_of_getElem? (i := 34) rfl))) (g := (mkF m 103 #[.val (.int p0), .val (.int p1), .val (.int p2), .val (.int p3), .val (.int p4), .val (.int w5), .val (.int w6), .val (.int z1), .val (.int z2), .val (.int (1 : Int32)), .val (.int (1 : Int32)), .val (.ref r5), .val (.ref r6), .unset, .unset, .unset, .unset, .unset, .unset] [(.int p2)])) rfl (hb hby at_103) _ k) ?_
          refine go (T' := T6) (f' := (mkF m 106 #[.val (.int p0), .val (.int p1), .val (.int p2), .val (.int p3), .val (.int p4), .val (.int w5), .val (.int w6), .val (.int z1), .val (.int z2), .val (.int (1 : Int32)), .val (.int (1 : Int32)), .val (.ref r5), .val (.ref r6), .unset, .unset, .unset, .unset, .unset, .unset] [(.int (p2 &&& (2147483647 : Int32)))])) (by intro t k; exact XS.iand X6.here hx rfl (hb hby at_105) rfl k) ?_
          refine go (T' := T6) (f' := (mkF m 108 #[.val (.int p0), .val (.int p1), .val (.int p2), .val (.int p3), .val (.int p4), .val (.int w5), .val (.int w6), .val (.int z1), .val (.int z2), .val (.int (1 : Int32)), .val (.int (1 : Int32)), .val (.ref r5), .val (.ref r6), .val (.int (p2 &&& (2147483647 : Int32))), .unset, .unset, .unset, .unset, .unset] [])) (by intro t k; exact XS.istore X6.here hx rfl (hb hby at_106) rfl (l' := #[.val (.int p0), .val (.int p1), .val (.int p2), .val (.int p3), .val (.int p4), .val (.int w5), .val (.int w6), .val (.int z1), .val (.int z2), .val (.int (1 : Int32)), .val (.int (1 : Int32)), .val (.ref r5), .val (.ref r6), .val (.int (p2 &&& (2147483647 : Int32))), .unset, .unset, .unset, .unset, .unset]) rfl k) ?_
          obtain ⟨w13, hw13⟩ : ∃ z : Int32, z = (p2 &&& (2147483647 : Int32)) := ⟨_, rfl⟩
          rw [← hw13]
          show Run _ _ _ _ _ _ _ T6 (mkF m 108 #[.val (.int p0), .val (.int p1), .val (.int p2), .val (.int p3), .val (.int p4), .val (.int w5), .val (.int w6), .val (.int z1), .val (.int z2), .val (.int (1 : Int32)), .val (.int (1 : Int32)), .val (.ref r5), .val (.ref r6), .val (.int w13), .unset, .unset, .unset, .unset, .unset] [])
          refine go (T' := T6) (f' := (mkF m 110 #[.val (.int p0), .val (.int p1), .val (.int p2), .val (.int p3), .val (.int p4), .val (.int w5), .val (.int w6), .val (.int z1), .val (.int z2), .val (.int (1 : Int32)), .val (.int (1 : Int32)), .val (.ref r5), .val (.ref r6), .val (.int w13), .unset, .unset, .unset, .unset, .unset] [(.int p4)])) (by intro t k; exact XS.iload X6.here hx rfl (hb hby at_108) rfl k) ?_
          refine go (T' := T6) (f' := (mkF m 112 #[.val (.int p0), .val (.int p1), .val (.int p2), .val (.int p3), .val (.int p4), .val (.int w5), .val (.int w6), .val (.int z1), .val (.int z2), .val (.int (1 : Int32)), .val (.int (1 : Int32)), .val (.ref r5), .val (.ref r6), .val (.int w13), .unset, .unset, .unset, .unset, .unset] [(.int (16 : Int32)), (.int p4)])) (by intro t k; exact XS.bipush X6.here hx rfl (hb hby at_110) k) ?_
          refine go (T' := T6) (f' := (mkF m 113 #[.val (.int p0), .val (.int p1), .val (.int p2), .val (.int p3), .val (.int p4), .val (.int w5), .val (.int w6), .val (.int z1), .val (.int z2), .val (.int (1 : Int32)), .val (.int (1 : Int32)), .val (.ref r5), .val (.ref r6), .val (.int w13), .unset, .unset, .unset, .unset, .unset] [(.int (p4 &&& (16 : Int32)))])) (by intro t k; exact XS.iand X6.here hx rfl (hb hby at_112) rfl k) ?_
          obtain ⟨z7, hz7⟩ : ∃ z : Int32, z = (if (p4 &&& (16 : Int32)) = (0 : Int32) then w13 else (p3 &&& (2147483647 : Int32))) := ⟨_, rfl⟩
          have J113 : Run p e s below (Q0 Z p0 p1 p2 p3 p4 cs h0 n0) room_1.cells room_1.slots T6 (mkF m 125 #[.val (.int p0), .val (.int p1), .val (.int p2), .val (.int p3), .val (.int p4), .val (.int w5), .val (.int w6), .val (.int z1), .val (.int z2), .val (.int (1 : Int32)), .val (.int (1 : Int32)), .val (.ref r5), .val (.ref r6), .val (.int w13), .unset, .unset, .unset, .unset, .unset] [(.int z7)]) := by
            show Run _ _ _ _ _ _ _ T6 (mkF m 125 #[.val (.int p0), .val (.int p1), .val (.int p2), .val (.int p3), .val (.int p4), .val (.int w5), .val (.int w6), .val (.int z1), .val (.int z2), .val (.int (1 : Int32)), .val (.int (1 : Int32)), .val (.ref r5), .val (.ref r6), .val (.int w13), .unset, .unset, .unset, .unset, .unset] [(.int z7)])
            refine go (T' := T6) (f' := (mkF m 127 #[.val (.int p0), .val (.int p1), .val (.int p2), .val (.int p3), .val (.int p4), .val (.int w5), .val (.int w6), .val (.int z1), .val (.int z2), .val (.int (1 : Int32)), .val (.int (1 : Int32)), .val (.ref r5), .val (.ref r6), .val (.int w13), .val (.int z7), .unset, .unset, .unset, .unset] [])) (by intro t k; exact XS.istore X6.here hx rfl (hb hby at_125) rfl (l' := #[.val (.int p0), .val (.int p1), .val (.int p2), .val (.int p3), .val (.int p4), .val (.int w5), .val (.int w6), .val (.int z1), .val (.int z2), .val (.int (1 : Int32)), .val (.int (1 : Int32)), .val (.ref r5), .val (.ref r6), .val (.int w13), .val (.int z7), .unset, .unset, .unset, .unset]) rfl k) ?_
            refine go (T' := T6) (f' := (mkF m 129 #[.val (.int p0), .val (.int p1), .val (.int p2), .val (.int p3), .val (.int p4), .val (.int w5), .val (.int w6), .val (.int z1), .val (.int z2), .val (.int (1 : Int32)), .val (.int (1 : Int32)), .val (.ref r5), .val (.ref r6), .val (.int w13), .val (.int z7), .unset, .unset, .unset, .unset] [(.int p4)])) (by intro t k; exact XS.iload X6.here hx rfl (hb hby at_127) rfl k) ?_
            refine go (T' := T6) (f' := (mkF m 130 #[.val (.int p0), .val (.int p1), .val (.int p2), .val (.int p3), .val (.int p4), .val (.int w5), .val (.int w6), .val (.int z1), .val (.int z2), .val (.int (1 : Int32)), .val (.int (1 : Int32)), .val (.ref r5), .val (.ref r6), .val (.int w13), .val (.int z7), .unset, .unset, .unset, .unset] [(.int (5 : Int32)), (.int p4)])) (by intro t k; exact XS.iconst X6.here hx rfl (hb hby at_129) k) ?_
            refine go (T' := T6) (f' := (mkF m 131 #[.val (.int p0), .val (.int p1), .val (.int p2), .val (.int p3), .val (.int p4), .val (.int w5), .val (.int w6), .val (.int z1), .val (.int z2), .val (.int (1 : Int32)), .val (.int (1 : Int32)), .val (.ref r5), .val (.ref r6), .val (.int w13), .val (.int z7), .unset, .unset, .unset, .unset] [(.int (((p4).toUInt32 >>> ((5 : Int32) &&& 31).toUInt32).toInt32))])) (by intro t k; exact XS.iushr X6.here hx rfl (hb hby at_130) rfl k) ?_
            refine go (T' := T6) (f' := (mkF m 132 #[.val (.int p0), .val (.int p1), .val (.int p2), .val (.int p3), .val (.int p4), .val (.int w5), .val (.int w6), .val (.int z1), .val (.int z2), .val (.int (1 : Int32)), .val (.int (1 : Int32)), .val (.ref r5), .val (.ref r6), .val (.int w13), .val (.int z7), .unset, .unset, .unset, .unset] [(.int (3 : Int32)), (.int (((p4).toUInt32 >>> ((5 : Int32) &&& 31).toUInt32).toInt32))])) (by intro t k; exact XS.iconst X6.here hx rfl (hb hby at_131) k) ?_
            refine go (T' := T6) (f' := (mkF m 133 #[.val (.int p0), .val (.int p1), .val (.int p2), .val (.int p3), .val (.int p4), .val (.int w5), .val (.int w6), .val (.int z1), .val (.int z2), .val (.int (1 : Int32)), .val (.int (1 : Int32)), .val (.ref r5), .val (.ref r6), .val (.int w13), .val (.int z7), .unset, .unset, .unset, .unset] [(.int ((((p4).toUInt32 >>> ((5 : Int32) &&& 31).toUInt32).toInt32) &&& (3 : Int32)))])) (by intro t k; exact XS.iand X6.here hx rfl (hb hby at_132) rfl k) ?_
            refine go (T' := T6) (f' := (mkF m 135 #[.val (.int p0), .val (.int p1), .val (.int p2), .val (.int p3), .val (.int p4), .val (.int w5), .val (.int w6), .val (.int z1), .val (.int z2), .val (.int (1 : Int32)), .val (.int (1 : Int32)), .val (.ref r5), .val (.ref r6), .val (.int w13), .val (.int z7), .val (.int ((((p4).toUInt32 >>> ((5 : Int32) &&& 31).toUInt32).toInt32) &&& (3 : Int32))), .unset, .unset, .unset] [])) (by intro t k; exact XS.istore X6.here hx rfl (hb hby at_133) rfl (l' := #[.val (.int p0), .val (.int p1), .val (.int p2), .val (.int p3), .val (.int p4), .val (.int w5), .val (.int w6), .val (.int z1), .val (.int z2), .val (.int (1 : Int32)), .val (.int (1 : Int32)), .val (.ref r5), .val (.ref r6), .val (.int w13), .val (.int z7), .val (.int ((((p4).toUInt32 >>> ((5 : Int32) &&& 31).toUInt32).toInt32) &&& (3 : Int32))), .unset, .unset, .unset]) rfl k) ?_
            have ha13 := own_nn hw13
            have ha14 := own_ni hz7 ha13
            obtain ⟨z8, hz8⟩ : ∃ z : Int32, z = ((((p4).toUInt32 >>> ((5 : Int32) &&& 31).toUInt32).toInt32) &&& (3 : Int32)) := ⟨_, rfl⟩
            rw [← hz8]
            rcases (own_kind hz8 : z8 = (0 : Int32) ∨ z8 = (1 : Int32) ∨ z8 = (2 : Int32) ∨ z8 = (3 : Int32)) with ez | ez | ez | ez
            · subst ez
              show Run _ _ _ _ _ _ _ T6 (mkF m 135 #[.val (.int p0), .val (.int p1), .val (.int p2), .val (.int p3), .val (.int p4), .val (.int w5), .val (.int w6), .val (.int z1), .val (.int z2), .val (.int (1 : Int32)), .val (.int (1 : Int32)), .val (.ref r5), .val (.ref r6), .val (.int w13), .val (.int z7), .val (.int (0 : Int32)), .unset, .unset, .unset] [])
              obtain ⟨T9, h9, X9, e9, E9, A9, D9, -, st9⟩ := newO X6 hx hZ hown (hw _ (List.mem_of_getElem? (i := 35) rfl)) (hw _ (List.mem_of_getElem? (i := 36) rfl)) (hw _ (List.mem_of_getElem? (i := 37) rfl)) rfl (g := (mkF m 135 #[.val (.int p0), .val (.int p1), .val (.int p2), .val (.int p3), .val (.int p4), .val (.int w5), .val (.int w6), .val (.int z1), .val (.int z2), .val (.int (1 : Int32)), .val (.int (1 : Int32)), .val (.ref r5), .val (.ref r6), .val (.int w13), .val (.int z7), .val (.int (0 : Int32)), .unset, .unset, .unset] [])) rfl (hb hby at_135) (by decide) (by decide)
              obtain ⟨b9, g9⟩ : ∃ z, z = T6.heap.size := ⟨_, rfl⟩
              rw [← g9] at A9 D9 st9
              have ne_r5_b9 : r5 ≠ b9 := Nat.ne_of_lt (Nat.lt_of_lt_of_eq E6_r5.lt g9.symm)
              have ne_r6_b9 : r6 ≠ b9 := Nat.ne_of_lt (Nat.lt_of_lt_of_eq E6.lt g9.symm)
              have ne_sb5_b9 : sb5 ≠ b9 := Nat.ne_of_lt (Nat.lt_of_lt_of_eq A6_sb5.lt g9.symm)
              have ne_sb6_b9 : sb6 ≠ b9 := Nat.ne_of_lt (Nat.lt_of_lt_of_eq Ab6.lt g9.symm)
              have ge_b9 : n0 ≤ b9 := Nat.le_trans Z6 (Nat.le_of_eq g9.symm)
              have K9 : Keep T6.heap h9 [] := (Keep.refl _ _).ext E9
              have E9_r5 := Exa.keep E6_r5 K9
              have E9_r6 := Exa.keep E6 K9
              have F9_r5_coder := Fld.keep F6_r5_coder K9 nin0
              have F9_r5_value := Fld.keep F6_r5_value K9 nin0
              have F9_r6_coder := Fld.keep Fc6 K9 nin0
              have F9_r6_value := Fld.keep Fv6 K9 nin0
              have A9_sb5 := Ary.keep A6_sb5 K9 nin0
              have A9_sb6 := Ary.keep Ab6 K9 nin0
              have O9 : Old Z n0 h9 := O6.keep K9 all0
              have Z9 : n0 ≤ h9.size := Nat.le_trans Z6 K9.1
              have F9_b9_name : Fld Z h9 b9 "com/example/backchain/backchain/model/Predicate" "name" "Ljava/lang/String;" .null := D9 (Or.inr (hw _ (List.mem_of_getElem? (i := 48) rfl))) (ty := (.object "java/lang/String")) (by decide)
              have F9_b9_arity : Fld Z h9 b9 "com/example/backchain/backchain/model/Predicate" "arity" "I" (.int (0 : Int32)) := D9 (Or.inr (hw _ (List.mem_of_getElem? (i := 50) rfl))) (ty := .int) (by decide)
              refine go st9 ?_
              show Run _ _ _ _ _ _ _ T9 (mkF m 138 #[.val (.int p0), .val (.int p1), .val (.int p2), .val (.int p3), .val (.int p4), .val (.int w5), .val (.int w6), .val (.int z1), .val (.int z2), .val (.int (1 : Int32)), .val (.int (1 : Int32)), .val (.ref r5), .val (.ref r6), .val (.int w13), .val (.int z7), .val (.int (0 : Int32)), .unset, .unset, .unset] [(.ref b9)])
              refine go (T' := T9) (f' := (mkF m 139 #[.val (.int p0), .val (.int p1), .val (.int p2), .val (.int p3), .val (.int p4), .val (.int w5), .val (.int w6), .val (.int z1), .val (.int z2), .val (.int (1 : Int32)), .val (.int (1 : Int32)), .val (.ref r5), .val (.ref r6), .val (.int w13), .val (.int z7), .val (.int (0 : Int32)), .unset, .unset, .unset] [(.ref b9), (.ref b9)])) (by intro t k; exact XS.dup X9.here hx rfl (hb hby at_138) rfl rfl k) ?_
              refine go (T' := T9) (f' := (mkF m 141 #[.val (.int p0), .val (.int p1), .val (.int p2), .val (.int p3), .val (.int p4), .val (.int w5), .val (.int w6), .val (.int z1), .val (.int z2), .val (.int (1 : Int32)), .val (.int (1 : Int32)), .val (.ref r5), .val (.ref r6), .val (.int w13), .val (.int z7), .val (.int (0 : Int32)), .unset, .unset, .unset] [(.ref r5), (.ref b9), (.ref b9)])) (by intro t k; exact XS.aload X9.here hx rfl (hb hby at_139) rfl rfl k) ?_
              refine go (T' := T9) (f' := (mkF m 143 #[.val (.int p0), .val (.int p1), .val (.int p2), .val (.int p3), .val (.int p4), .val (.int w5), .val (.int w6), .val (.int z1), .val (.int z2), .val (.int (1 : Int32)), .val (.int (1 : Int32)), .val (.ref r5), .val (.ref r6), .val (.int w13), .val (.int z7), .val (.int (0 : Int32)), .unset, .unset, .unset] [(.int w13), (.ref r5), (.ref b9), (.ref b9)])) (by intro t k; exact XS.iload X9.here hx rfl (hb hby at_141) rfl k) ?_
              obtain ⟨_, _, ⟨T10, Lz10, kz10, nz10⟩, -, X10, ⟨Lc10, hQ10, lz10, yz10, zz10⟩, st10⟩ := X9.specialBack hx (y := (⟨"com/example/backchain/backchain/model/Predicate", "<init>", "(Ljava/lang/String;I)V"⟩ : MethodName)) rfl hown (mvT hZ (hw _ (List.mem_of_getElem? (i := 38) rfl))) (mvT hZ (hw _ (List.mem_of_getElem? (i := 39) rfl))) (mvT hZ (hw _ (List.mem_of_getElem? (i := 40) rfl))) (by decide) (backOf (W := 1) (rm8 l Z aw hw [] b9 r5 w13 sb5 [(.int (nar .byte (((nar .char w5)).toInt8.toInt32)))] (1 : Int32) h9 n0 Z9 A9 F9_b9_name F9_b9_arity ge_b9 E9_r5 F9_r5_value A9_sb5 (Ne.symm ne_r5_b9) (Ne.symm ne_sb5_b9) rfl (by decide) ha13) hZ (hw _ (List.mem_of_getElem? (i := 40) rfl)) (hw _ (List.mem_of_getElem? (i := 37) rfl)) (by decide) (by decide)) (g := (mkF m 143 #[.val (.int p0), .val (.int p1), .val (.int p2), .val (.int p3), .val (.int p4), .val (.int w5), .val (.int w6), .val (.int z1), .val (.int z2), .val (.int (1 : Int32)), .val (.int (1 : Int32)), .val (.ref r5), .val (.ref r6), .val (.int w13), .val (.int z7), .val (.int (0 : Int32)), .unset, .unset, .unset] [(.int w13), (.ref r5), (.ref b9), (.ref b9)])) rfl (by rw [hml]; rfl) (Steps.refl _) (a := b9) (argsL := [(.ref r5), (.int w13)]) (rest := [(.ref b9)]) (lenOf pd_28Ljava2flang2fString3bI29V rfl) rfl (by show 2 * 0 + _ ≤ _; exact Nat.le_of_eq rfl) (hb hby at_143) (fun _ _ => ⟨rfl, e9, (by decide : 7 + 0 ≤ _), (by decide : 14 + 0 ≤ _)⟩)
              dsimp only [Pt.U, Pt.locs, Pt.cells, Pt.slots] at X10 lz10 yz10 zz10 st10 hQ10
              subst lz10 yz10 zz10
              obtain ⟨rfl, N10q, K10, Fn10, Fa10⟩ := hQ10
              have E10_r5 := Exa.keep E9_r5 K10
              have E10_r6 := Exa.keep E9_r6 K10
              have E10_b9 := Exa.keep A9 K10
              have F10_r5_coder := Fld.keep F9_r5_coder K10 (ninS ne_r5_b9 nin0)
              have F10_r5_value := Fld.keep F9_r5_value K10 (ninS ne_r5_b9 nin0)
              have F10_r6_coder := Fld.keep F9_r6_coder K10 (ninS ne_r6_b9 nin0)
              have F10_r6_value := Fld.keep F9_r6_value K10 (ninS ne_r6_b9 nin0)
              have A10_sb5 := Ary.keep A9_sb5 K10 (ninS ne_sb5_b9 nin0)
              have A10_sb6 := Ary.keep A9_sb6 K10 (ninS ne_sb6_b9 nin0)
              have O10 : Old Z n0 T10.heap := O9.keep K10 (allS ge_b9 all0)
              have Z10 : n0 ≤ T10.heap.size := Nat.le_trans Z9 K10.1
              have N10 := Fr.app N6 N10q
              refine go (fun _ k => st10.trans k) ?_
              show Run _ _ _ _ _ _ _ T10 (mkF m 146 #[.val (.int p0), .val (.int p1), .val (.int p2), .val (.int p3), .val (.int p4), .val (.int w5), .val (.int w6), .val (.int z1), .val (.int z2), .val (.int (1 : Int32)), .val (.int (1 : Int32)), .val (.ref r5), .val (.ref r6), .val (.int w13), .val (.int z7), .val (.int (0 : Int32)), .unset, .unset, .unset] [(.ref b9)])
              refine go (T' := T10) (f' := (mkF m 148 #[.val (.int p0), .val (.int p1), .val (.int p2), .val (.int p3), .val (.int p4), .val (.int w5), .val (.int w6), .val (.int z1), .val (.int z2), .val (.int (1 : Int32)), .val (.int (1 : Int32)), .val (.ref r5), .val (.ref r6), .val (.int w13), .val (.int z7), .val (.int (0 : Int32)), .val (.ref b9), .unset, .unset] [])) (by intro t k; exact XS.astore X10.here hx rfl (hb hby at_146) rfl rfl (l' := #[.val (.int p0), .val (.int p1), .val (.int p2), .val (.int p3), .val (.int p4), .val (.int w5), .val (.int w6), .val (.int z1), .val (.int z2), .val (.int (1 : Int32)), .val (.int (1 : Int32)), .val (.ref r5), .val (.ref r6), .val (.int w13), .val (.int z7), .val (.int (0 : Int32)), .val (.ref b9), .unset, .unset]) rfl k) ?_
              refine go (T' := T10) (f' := (mkF m 150 #[.val (.int p0), .val (.int p1), .val (.int p2), .val (.int p3), .val (.int p4), .val (.int w5), .val (.int w6), .val (.int z1), .val (.int z2), .val (.int (1 : Int32)), .val (.int (1 : Int32)), .val (.ref r5), .val (.ref r6), .val (.int w13), .val (.int z7), .val (.int (0 : Int32)), .val (.ref b9), .unset, .unset] [(.int (0 : Int32))])) (by intro t k; exact XS.iload X10.here hx rfl (hb hby at_148) rfl k) ?_
              refine go (T' := T10) (f' := (mkF m 153 #[.val (.int p0), .val (.int p1), .val (.int p2), .val (.int p3), .val (.int p4), .val (.int w5), .val (.int w6), .val (.int z1), .val (.int z2), .val (.int (1 : Int32)), .val (.int (1 : Int32)), .val (.ref r5), .val (.ref r6), .val (.int w13), .val (.int z7), .val (.int (0 : Int32)), .val (.ref b9), .unset, .unset] [])) (by intro t k; exact XS.ifNo X10.here hx rfl (hb hby at_150) rfl ((if0 _ _).trans (teq (rfl : (0 : Int32) = (0 : Int32))).2) k) ?_
              refine go (T' := T10) (f' := (mkF m 155 #[.val (.int p0), .val (.int p1), .val (.int p2), .val (.int p3), .val (.int p4), .val (.int w5), .val (.int w6), .val (.int z1), .val (.int z2), .val (.int (1 : Int32)), .val (.int (1 : Int32)), .val (.ref r5), .val (.ref r6), .val (.int w13), .val (.int z7), .val (.int (0 : Int32)), .val (.ref b9), .unset, .unset] [(.ref b9)])) (by intro t k; exact XS.aload X10.here hx rfl (hb hby at_153) rfl rfl k) ?_
              refine go (T' := T10) (f' := (mkF m 157 #[.val (.int p0), .val (.int p1), .val (.int p2), .val (.int p3), .val (.int p4), .val (.int w5), .val (.int w6), .val (.int z1), .val (.int z2), .val (.int (1 : Int32)), .val (.int (1 : Int32)), .val (.ref r5), .val (.ref r6), .val (.int w13), .val (.int z7), .val (.int (0 : Int32)), .val (.ref b9), .unset, .unset] [(.ref b9), (.ref b9)])) (by intro t k; exact XS.aload X10.here hx rfl (hb hby at_155) rfl rfl k) ?_
              obtain ⟨cq11, kq11, q11a, q11b, q11c⟩ := isOf hZ rfl E10_b9
              obtain ⟨_, _, ⟨T11, Lz11, kz11, nz11⟩, -, X11, ⟨Lc11, hQ11, lz11, yz11, zz11⟩, st11⟩ := X10.virtualBack hx (y := (⟨"com/example/backchain/backchain/model/Predicate", "equals", "(Ljava/lang/Object;)Z"⟩ : MethodName)) (z := (⟨"com/example/backchain/backchain/model/Predicate", "equals", "(Ljava/lang/Object;)Z"⟩ : MethodName)) hown (mvT hZ (hw _ (List.mem_of_getElem? (i := 51) rfl))) (mvT hZ (hw _ (List.mem_of_getElem? (i := 52) rfl))) (notFace_of_selects (args := #[]) (mvT hZ (hw _ (List.mem_of_getElem? (i := 54) rfl)))) (mvT hZ (hw _ (List.mem_of_getElem? (i := 54) rfl))) (mvT hZ (hw _ (List.mem_of_getElem? (i := 53) rfl))) (by decide) (backOf (W := 0) (rm10s l Z aw hw [] b9 b9  T10.heap n0 Z10 rfl) hZ (hw _ (List.mem_of_getElem? (i := 55) rfl)) (hw _ (List.mem_of_getElem? (i := 37) rfl)) (by decide) (by decide)) q11a q11c (g := (mkF m 157 #[.val (.int p0), .val (.int p1), .val (.int p2), .val (.int p3), .val (.int p4), .val (.int w5), .val (.int w6), .val (.int z1), .val (.int z2), .val (.int (1 : Int32)), .val (.int (1 : Int32)), .val (.ref r5), .val (.ref r6), .val (.int w13), .val (.int z7), .val (.int (0 : Int32)), .val (.ref b9), .unset, .unset] [(.ref b9), (.ref b9)])) rfl (by rw [hml]; rfl) (Steps.refl _) (argsL := [(.ref b9)]) (rest := []) (lenOf pd_28Ljava2flang2fObject3b29Z rfl) rfl (by show 2 * 0 + _ ≤ _; exact Nat.le_of_eq rfl) (hb hby at_157) (fun _ _ => ⟨rfl, rfl, (by decide : 7 + 0 ≤ _), (by decide : 14 + 0 ≤ _)⟩)
              dsimp only [Pt.U, Pt.locs, Pt.cells, Pt.slots] at X11 lz11 yz11 zz11 st11 hQ11
              subst lz11 yz11 zz11
              obtain ⟨rfl, N11q, e11⟩ := hQ11
              have N11 := Fr.app N10 N11q
              refine go (fun _ k => st11.trans k) ?_
              show Run _ _ _ _ _ _ _ T11 (mkF m 160 #[.val (.int p0), .val (.int p1), .val (.int p2), .val (.int p3), .val (.int p4), .val (.int w5), .val (.int w6), .val (.int z1), .val (.int z2), .val (.int (1 : Int32)), .val (.int (1 : Int32)), .val (.ref r5), .val (.ref r6), .val (.int w13), .val (.int z7), .val (.int (0 : Int32)), .val (.ref b9), .unset, .unset] [(.int (1 : Int32))])
              refine retZ X11 hx (t := .boolean) Bd.returns (by simp) (hb hby at_160) hlk (by decide) (by decide) ?_
              show Q0 Z p0 p1 p2 p3 p4 cs h0 n0 _ T11.heap _
              rw [e11]
              have hv' : (nar .boolean (1 : Int32)) = (1 : Int32) := by
                rfl
              have hv : (some (.int (nar .boolean (1 : Int32))) : Option Value) = some (.int (1 : Int32)) := congrArg (fun z => (some (.int z) : Option Value)) hv'
              exact ⟨hv, N11⟩
            · subst ez
              show Run _ _ _ _ _ _ _ T6 (mkF m 135 #[.val (.int p0), .val (.int p1), .val (.int p2), .val (.int p3), .val (.int p4), .val (.int w5), .val (.int w6), .val (.int z1), .val (.int z2), .val (.int (1 : Int32)), .val (.int (1 : Int32)), .val (.ref r5), .val (.ref r6), .val (.int w13), .val (.int z7), .val (.int (1 : Int32)), .unset, .unset, .unset] [])
              obtain ⟨T12, h12, X12, e12, E12, A12, D12, -, st12⟩ := newO X6 hx hZ hown (hw _ (List.mem_of_getElem? (i := 35) rfl)) (hw _ (List.mem_of_getElem? (i := 36) rfl)) (hw _ (List.mem_of_getElem? (i := 37) rfl)) rfl (g := (mkF m 135 #[.val (.int p0), .val (.int p1), .val (.int p2), .val (.int p3), .val (.int p4), .val (.int w5), .val (.int w6), .val (.int z1), .val (.int z2), .val (.int (1 : Int32)), .val (.int (1 : Int32)), .val (.ref r5), .val (.ref r6), .val (.int w13), .val (.int z7), .val (.int (1 : Int32)), .unset, .unset, .unset] [])) rfl (hb hby at_135) (by decide) (by decide)
              obtain ⟨b12, g12⟩ : ∃ z, z = T6.heap.size := ⟨_, rfl⟩
              rw [← g12] at A12 D12 st12
              have ne_r5_b12 : r5 ≠ b12 := Nat.ne_of_lt (Nat.lt_of_lt_of_eq E6_r5.lt g12.symm)
              have ne_r6_b12 : r6 ≠ b12 := Nat.ne_of_lt (Nat.lt_of_lt_of_eq E6.lt g12.symm)
              have ne_sb5_b12 : sb5 ≠ b12 := Nat.ne_of_lt (Nat.lt_of_lt_of_eq A6_sb5.lt g12.symm)
              have ne_sb6_b12 : sb6 ≠ b12 := Nat.ne_of_lt (Nat.lt_of_lt_of_eq Ab6.lt g12.symm)
              have ge_b12 : n0 ≤ b12 := Nat.le_trans Z6 (Nat.le_of_eq g12.symm)
              have K12 : Keep T6.heap h12 [] := (Keep.refl _ _).ext E12
              have E12_r5 := Exa.keep E6_r5 K12
              have E12_r6 := Exa.keep E6 K12
              have F12_r5_coder := Fld.keep F6_r5_coder K12 nin0
              have F12_r5_value := Fld.keep F6_r5_value K12 nin0
              have F12_r6_coder := Fld.keep Fc6 K12 nin0
              have F12_r6_value := Fld.keep Fv6 K12 nin0
              have A12_sb5 := Ary.keep A6_sb5 K12 nin0
              have A12_sb6 := Ary.keep Ab6 K12 nin0
              have O12 : Old Z n0 h12 := O6.keep K12 all0
              have Z12 : n0 ≤ h12.size := Nat.le_trans Z6 K12.1
              have F12_b12_name : Fld Z h12 b12 "com/example/backchain/backchain/model/Predicate" "name" "Ljava/lang/String;" .null := D12 (Or.inr (hw _ (List.mem_of_getElem? (i := 48) rfl))) (ty := (.object "java/lang/String")) (by decide)
              have F12_b12_arity : Fld Z h12 b12 "com/example/backchain/backchain/model/Predicate" "arity" "I" (.int (0 : Int32)) := D12 (Or.inr (hw _ (List.mem_of_getElem? (i := 50) rfl))) (ty := .int) (by decide)
              refine go st12 ?_
              show Run _ _ _ _ _ _ _ T12 (mkF m 138 #[.val (.int p0), .val (.int p1), .val (.int p2), .val (.int p3), .val (.int p4), .val (.int w5), .val (.int w6), .val (.int z1), .val (.int z2), .val (.int (1 : Int32)), .val (.int (1 : Int32)), .val (.ref r5), .val (.ref r6), .val (.int w13), .val (.int z7), .val (.int (1 : Int32)), .unset, .unset, .unset] [(.ref b12)])
              refine go (T' := T12) (f' := (mkF m 139 #[.val (.int p0), .val (.int p1), .val (.int p2), .val (.int p3), .val (.int p4), .val (.int w5), .val (.int w6), .val (.int z1), .val (.int z2), .val (.int (1 : Int32)), .val (.int (1 : Int32)), .val (.ref r5), .val (.ref r6), .val (.int w13), .val (.int z7), .val (.int (1 : Int32)), .unset, .unset, .unset] [(.ref b12), (.ref b12)])) (by intro t k; exact XS.dup X12.here hx rfl (hb hby at_138) rfl rfl k) ?_
              refine go (T' := T12) (f' := (mkF m 141 #[.val (.int p0), .val (.int p1), .val (.int p2), .val (.int p3), .val (.int p4), .val (.int w5), .val (.int w6), .val (.int z1), .val (.int z2), .val (.int (1 : Int32)), .val (.int (1 : Int32)), .val (.ref r5), .val (.ref r6), .val (.int w13), .val (.int z7), .val (.int (1 : Int32)), .unset, .unset, .unset] [(.ref r5), (.ref b12), (.ref b12)])) (by intro t k; exact XS.aload X12.here hx rfl (hb hby at_139) rfl rfl k) ?_
              refine go (T' := T12) (f' := (mkF m 143 #[.val (.int p0), .val (.int p1), .val (.int p2), .val (.int p3), .val (.int p4), .val (.int w5), .val (.int w6), .val (.int z1), .val (.int z2), .val (.int (1 : Int32)), .val (.int (1 : Int32)), .val (.ref r5), .val (.ref r6), .val (.int w13), .val (.int z7), .val (.int (1 : Int32)), .unset, .unset, .unset] [(.int w13), (.ref r5), (.ref b12), (.ref b12)])) (by intro t k; exact XS.iload X12.here hx rfl (hb hby at_141) rfl k) ?_
              obtain ⟨_, _, ⟨T13, Lz13, kz13, nz13⟩, -, X13, ⟨Lc13, hQ13, lz13, yz13, zz13⟩, st13⟩ := X12.specialBack hx (y := (⟨"com/example/backchain/backchain/model/Predicate", "<init>", "(Ljava/lang/String;I)V"⟩ : MethodName)) rfl hown (mvT hZ (hw _ (List.mem_of_getElem? (i := 38) rfl))) (mvT hZ (hw _ (List.mem_of_getElem? (i := 39) rfl))) (mvT hZ (hw _ (List.mem_of_getElem? (i := 40) rfl))) (by decide) (backOf (W := 1) (rm8 l Z aw hw [] b12 r5 w13 sb5 [(.int (nar .byte (((nar .char w5)).toInt8.toInt32)))] (1 : Int32) h12 n0 Z12 A12 F12_b12_name F12_b12_arity ge_b12 E12_r5 F12_r5_value A12_sb5 (Ne.symm ne_r5_b12) (Ne.symm ne_sb5_b12) rfl (by decide) ha13) hZ (hw _ (List.mem_of_getElem? (i := 40) rfl)) (hw _ (List.mem_of_getElem? (i := 37) rfl)) (by decide) (by decide)) (g := (mkF m 143 #[.val (.int p0), .val (.int p1), .val (.int p2), .val (.int p3), .val (.int p4), .val (.int w5), .val (.int w6), .val (.int z1), .val (.int z2), .val (.int (1 : Int32)), .val (.int (1 : Int32)), .val (.ref r5), .val (.ref r6), .val (.int w13), .val (.int z7), .val (.int (1 : Int32)), .unset, .unset, .unset] [(.int w13), (.ref r5), (.ref b12), (.ref b12)])) rfl (by rw [hml]; rfl) (Steps.refl _) (a := b12) (argsL := [(.ref r5), (.int w13)]) (rest := [(.ref b12)]) (lenOf pd_28Ljava2flang2fString3bI29V rfl) rfl (by show 2 * 0 + _ ≤ _; exact Nat.le_of_eq rfl) (hb hby at_143) (fun _ _ => ⟨rfl, e12, (by decide : 7 + 0 ≤ _), (by decide : 14 + 0 ≤ _)⟩)
              dsimp only [Pt.U, Pt.locs, Pt.cells, Pt.slots] at X13 lz13 yz13 zz13 st13 hQ13
              subst lz13 yz13 zz13
              obtain ⟨rfl, N13q, K13, Fn13, Fa13⟩ := hQ13
              have E13_r5 := Exa.keep E12_r5 K13
              have E13_r6 := Exa.keep E12_r6 K13
              have E13_b12 := Exa.keep A12 K13
              have F13_r5_coder := Fld.keep F12_r5_coder K13 (ninS ne_r5_b12 nin0)
              have F13_r5_value := Fld.keep F12_r5_value K13 (ninS ne_r5_b12 nin0)
              have F13_r6_coder := Fld.keep F12_r6_coder K13 (ninS ne_r6_b12 nin0)
              have F13_r6_value := Fld.keep F12_r6_value K13 (ninS ne_r6_b12 nin0)
              have A13_sb5 := Ary.keep A12_sb5 K13 (ninS ne_sb5_b12 nin0)
              have A13_sb6 := Ary.keep A12_sb6 K13 (ninS ne_sb6_b12 nin0)
              have O13 : Old Z n0 T13.heap := O12.keep K13 (allS ge_b12 all0)
              have Z13 : n0 ≤ T13.heap.size := Nat.le_trans Z12 K13.1
              have N13 := Fr.app N6 N13q
              refine go (fun _ k => st13.trans k) ?_
              show Run _ _ _ _ _ _ _ T13 (mkF m 146 #[.val (.int p0), .val (.int p1), .val (.int p2), .val (.int p3), .val (.int p4), .val (.int w5), .val (.int w6), .val (.int z1), .val (.int z2), .val (.int (1 : Int32)), .val (.int (1 : Int32)), .val (.ref r5), .val (.ref r6), .val (.int w13), .val (.int z7), .val (.int (1 : Int32)), .unset, .unset, .unset] [(.ref b12)])
              refine go (T' := T13) (f' := (mkF m 148 #[.val (.int p0), .val (.int p1), .val (.int p2), .val (.int p3), .val (.int p4), .val (.int w5), .val (.int w6), .val (.int z1), .val (.int z2), .val (.int (1 : Int32)), .val (.int (1 : Int32)), .val (.ref r5), .val (.ref r6), .val (.int w13), .val (.int z7), .val (.int (1 : Int32)), .val (.ref b12), .unset, .unset] [])) (by intro t k; exact XS.astore X13.here hx rfl (hb hby at_146) rfl rfl (l' := #[.val (.int p0), .val (.int p1), .val (.int p2), .val (.int p3), .val (.int p4), .val (.int w5), .val (.int w6), .val (.int z1), .val (.int z2), .val (.int (1 : Int32)), .val (.int (1 : Int32)), .val (.ref r5), .val (.ref r6), .val (.int w13), .val (.int z7), .val (.int (1 : Int32)), .val (.ref b12), .unset, .unset]) rfl k) ?_
              refine go (T' := T13) (f' := (mkF m 150 #[.val (.int p0), .val (.int p1), .val (.int p2), .val (.int p3), .val (.int p4), .val (.int w5), .val (.int w6), .val (.int z1), .val (.int z2), .val (.int (1 : Int32)), .val (.int (1 : Int32)), .val (.ref r5), .val (.ref r6), .val (.int w13), .val (.int z7), .val (.int (1 : Int32)), .val (.ref b12), .unset, .unset] [(.int (1 : Int32))])) (by intro t k; exact XS.iload X13.here hx rfl (hb hby at_148) rfl k) ?_
              refine go (T' := T13) (f' := (mkF m 161 #[.val (.int p0), .val (.int p1), .val (.int p2), .val (.int p3), .val (.int p4), .val (.int w5), .val (.int w6), .val (.int z1), .val (.int z2), .val (.int (1 : Int32)), .val (.int (1 : Int32)), .val (.ref r5), .val (.ref r6), .val (.int w13), .val (.int z7), .val (.int (1 : Int32)), .val (.ref b12), .unset, .unset] [])) (by intro t k; exact XS.ifYes X13.here hx rfl (pc0 := 150) (pc' := 161) rfl (hb hby at_150) rfl ((if0 _ _).trans (feq (by decide : ¬ ((1 : Int32) = (0 : Int32)))).2) (by decide) (by decide) k) ?_
              refine go (T' := T13) (f' := (mkF m 163 #[.val (.int p0), .val (.int p1), .val (.int p2), .val (.int p3), .val (.int p4), .val (.int w5), .val (.int w6), .val (.int z1), .val (.int z2), .val (.int (1 : Int32)), .val (.int (1 : Int32)), .val (.ref r5), .val (.ref r6), .val (.int w13), .val (.int z7), .val (.int (1 : Int32)), .val (.ref b12), .unset, .unset] [(.int (1 : Int32))])) (by intro t k; exact XS.iload X13.here hx rfl (hb hby at_161) rfl k) ?_
              refine go (T' := T13) (f' := (mkF m 164 #[.val (.int p0), .val (.int p1), .val (.int p2), .val (.int p3), .val (.int p4), .val (.int w5), .val (.int w6), .val (.int z1), .val (.int z2), .val (.int (1 : Int32)), .val (.int (1 : Int32)), .val (.ref r5), .val (.ref r6), .val (.int w13), .val (.int z7), .val (.int (1 : Int32)), .val (.ref b12), .unset, .unset] [(.int (2 : Int32)), (.int (1 : Int32))])) (by intro t k; exact XS.iconst X13.here hx rfl (hb hby at_163) k) ?_
              refine go (T' := T13) (f' := (mkF m 183 #[.val (.int p0), .val (.int p1), .val (.int p2), .val (.int p3), .val (.int p4), .val (.int w5), .val (.int w6), .val (.int z1), .val (.int z2), .val (.int (1 : Int32)), .val (.int (1 : Int32)), .val (.ref r5), .val (.ref r6), .val (.int w13), .val (.int z7), .val (.int (1 : Int32)), .val (.ref b12), .unset, .unset] [])) (by intro t k; exact XS.icmpYes X13.here hx rfl (pc0 := 164) (pc' := 183) rfl (hb hby at_164) rfl (feq (by decide : ¬ ((1 : Int32) = (2 : Int32)))).2 (by decide) (by decide) k) ?_
              refine go (T' := T13) (f' := (mkF m 185 #[.val (.int p0), .val (.int p1), .val (.int p2), .val (.int p3), .val (.int p4), .val (.int w5), .val (.int w6), .val (.int z1), .val (.int z2), .val (.int (1 : Int32)), .val (.int (1 : Int32)), .val (.ref r5), .val (.ref r6), .val (.int w13), .val (.int z7), .val (.int (1 : Int32)), .val (.ref b12), .unset, .unset] [(.int (1 : Int32))])) (by intro t k; exact XS.iload X13.here hx rfl (hb hby at_183) rfl k) ?_
              refine go (T' := T13) (f' := (mkF m 186 #[.val (.int p0), .val (.int p1), .val (.int p2), .val (.int p3), .val (.int p4), .val (.int w5), .val (.int w6), .val (.int z1), .val (.int z2), .val (.int (1 : Int32)), .val (.int (1 : Int32)), .val (.ref r5), .val (.ref r6), .val (.int w13), .val (.int z7), .val (.int (1 : Int32)), .val (.ref b12), .unset, .unset] [(.int (3 : Int32)), (.int (1 : Int32))])) (by intro t k; exact XS.iconst X13.here hx rfl (hb hby at_185) k) ?_
              refine go (T' := T13) (f' := (mkF m 204 #[.val (.int p0), .val (.int p1), .val (.int p2), .val (.int p3), .val (.int p4), .val (.int w5), .val (.int w6), .val (.int z1), .val (.int z2), .val (.int (1 : Int32)), .val (.int (1 : Int32)), .val (.ref r5), .val (.ref r6), .val (.int w13), .val (.int z7), .val (.int (1 : Int32)), .val (.ref b12), .unset, .unset] [])) (by intro t k; exact XS.icmpYes X13.here hx rfl (pc0 := 186) (pc' := 204) rfl (hb hby at_186) rfl (feq (by decide : ¬ ((1 : Int32) = (3 : Int32)))).2 (by decide) (by decide) k) ?_
              obtain ⟨T14, h14, X14, e14, E14, A14, D14, -, st14⟩ := newO X13 hx hZ hown (hw _ (List.mem_of_getElem? (i := 35) rfl)) (hw _ (List.mem_of_getElem? (i := 36) rfl)) (hw _ (List.mem_of_getElem? (i := 37) rfl)) rfl (g := (mkF m 204 #[.val (.int p0), .val (.int p1), .val (.int p2), .val (.int p3), .val (.int p4), .val (.int w5), .val (.int w6), .val (.int z1), .val (.int z2), .val (.int (1 : Int32)), .val (.int (1 : Int32)), .val (.ref r5), .val (.ref r6), .val (.int w13), .val (.int z7), .val (.int (1 : Int32)), .val (.ref b12), .unset, .unset] [])) rfl (hb hby at_204) (by decide) (by decide)
              obtain ⟨b14, g14⟩ : ∃ z, z = T13.heap.size := ⟨_, rfl⟩
              rw [← g14] at A14 D14 st14
              have ne_r5_b14 : r5 ≠ b14 := Nat.ne_of_lt (Nat.lt_of_lt_of_eq E13_r5.lt g14.symm)
              have ne_r6_b14 : r6 ≠ b14 := Nat.ne_of_lt (Nat.lt_of_lt_of_eq E13_r6.lt g14.symm)
              have ne_b12_b14 : b12 ≠ b14 := Nat.ne_of_lt (Nat.lt_of_lt_of_eq E13_b12.lt g14.symm)
              have ne_sb5_b14 : sb5 ≠ b14 := Nat.ne_of_lt (Nat.lt_of_lt_of_eq A13_sb5.lt g14.symm)
              have ne_sb6_b14 : sb6 ≠ b14 := Nat.ne_of_lt (Nat.lt_of_lt_of_eq A13_sb6.lt g14.symm)
              have ge_b14 : n0 ≤ b14 := Nat.le_trans Z13 (Nat.le_of_eq g14.symm)
              have K14 : Keep T13.heap h14 [] := (Keep.refl _ _).ext E14
              have E14_r5 := Exa.keep E13_r5 K14
              have E14_r6 := Exa.keep E13_r6 K14
              have E14_b12 := Exa.keep E13_b12 K14
              have F14_r5_coder := Fld.keep F13_r5_coder K14 nin0
              have F14_r5_value := Fld.keep F13_r5_value K14 nin0
              have F14_r6_coder := Fld.keep F13_r6_coder K14 nin0
              have F14_r6_value := Fld.keep F13_r6_value K14 nin0
              have F14_b12_name := Fld.keep Fn13 K14 nin0
              have F14_b12_arity := Fld.keep Fa13 K14 nin0
              have A14_sb5 := Ary.keep A13_sb5 K14 nin0
              have A14_sb6 := Ary.keep A13_sb6 K14 nin0
              have O14 : Old Z n0 h14 := O13.keep K14 all0
              have Z14 : n0 ≤ h14.size := Nat.le_trans Z13 K14.1
              have F14_b14_name : Fld Z h14 b14 "com/example/backchain/backchain/model/Predicate" "name" "Ljava/lang/String;" .null := D14 (Or.inr (hw _ (List.mem_of_getElem? (i := 48) rfl))) (ty := (.object "java/lang/String")) (by decide)
              have F14_b14_arity : Fld Z h14 b14 "com/example/backchain/backchain/model/Predicate" "arity" "I" (.int (0 : Int32)) := D14 (Or.inr (hw _ (List.mem_of_getElem? (i := 50) rfl))) (ty := .int) (by decide)
              refine go st14 ?_
              show Run _ _ _ _ _ _ _ T14 (mkF m 207 #[.val (.int p0), .val (.int p1), .val (.int p2), .val (.int p3), .val (.int p4), .val (.int w5), .val (.int w6), .val (.int z1), .val (.int z2), .val (.int (1 : Int32)), .val (.int (1 : Int32)), .val (.ref r5), .val (.ref r6), .val (.int w13), .val (.int z7), .val (.int (1 : Int32)), .val (.ref b12), .unset, .unset] [(.ref b14)])
              refine go (T' := T14) (f' := (mkF m 208 #[.val (.int p0), .val (.int p1), .val (.int p2), .val (.int p3), .val (.int p4), .val (.int w5), .val (.int w6), .val (.int z1), .val (.int z2), .val (.int (1 : Int32)), .val (.int (1 : Int32)), .val (.ref r5), .val (.ref r6), .val (.int w13), .val (.int z7), .val (.int (1 : Int32)), .val (.ref b12), .unset, .unset] [(.ref b14), (.ref b14)])) (by intro t k; exact XS.dup X14.here hx rfl (hb hby at_207) rfl rfl k) ?_
              refine go (T' := T14) (f' := (mkF m 210 #[.val (.int p0), .val (.int p1), .val (.int p2), .val (.int p3), .val (.int p4), .val (.int w5), .val (.int w6), .val (.int z1), .val (.int z2), .val (.int (1 : Int32)), .val (.int (1 : Int32)), .val (.ref r5), .val (.ref r6), .val (.int w13), .val (.int z7), .val (.int (1 : Int32)), .val (.ref b12), .unset, .unset] [(.ref r6), (.ref b14), (.ref b14)])) (by intro t k; exact XS.aload X14.here hx rfl (hb hby at_208) rfl rfl k) ?_
              refine go (T' := T14) (f' := (mkF m 212 #[.val (.int p0), .val (.int p1), .val (.int p2), .val (.int p3), .val (.int p4), .val (.int w5), .val (.int w6), .val (.int z1), .val (.int z2), .val (.int (1 : Int32)), .val (.int (1 : Int32)), .val (.ref r5), .val (.ref r6), .val (.int w13), .val (.int z7), .val (.int (1 : Int32)), .val (.ref b12), .unset, .unset] [(.int z7), (.ref r6), (.ref b14), (.ref b14)])) (by intro t k; exact XS.iload X14.here hx rfl (hb hby at_210) rfl k) ?_
              obtain ⟨_, _, ⟨T15, Lz15, kz15, nz15⟩, -, X15, ⟨Lc15, hQ15, lz15, yz15, zz15⟩, st15⟩ := X14.specialBack hx (y := (⟨"com/example/backchain/backchain/model/Predicate", "<init>", "(Ljava/lang/String;I)V"⟩ : MethodName)) rfl hown (mvT hZ (hw _ (List.mem_of_getElem? (i := 38) rfl))) (mvT hZ (hw _ (List.mem_of_getElem? (i := 39) rfl))) (mvT hZ (hw _ (List.mem_of_getElem? (i := 40) rfl))) (by decide) (backOf (W := 1) (rm8 l Z aw hw [] b14 r6 z7 sb6 [(.int (nar .byte (((nar .char z1)).toInt8.toInt32)))] (1 : Int32) h14 n0 Z14 A14 F14_b14_name F14_b14_arity ge_b14 E14_r6 F14_r6_value A14_sb6 (Ne.symm ne_r6_b14) (Ne.symm ne_sb6_b14) rfl (by decide) ha14) hZ (hw _ (List.mem_of_getElem? (i := 40) rfl)) (hw _ (List.mem_of_getElem? (i := 37) rfl)) (by decide) (by decide)) (g := (mkF m 212 #[.val (.int p0), .val (.int p1), .val (.int p2), .val (.int p3), .val (.int p4), .val (.int w5), .val (.int w6), .val (.int z1), .val (.int z2), .val (.int (1 : Int32)), .val (.int (1 : Int32)), .val (.ref r5), .val (.ref r6), .val (.int w13), .val (.int z7), .val (.int (1 : Int32)), .val (.ref b12), .unset, .unset] [(.int z7), (.ref r6), (.ref b14), (.ref b14)])) rfl (by rw [hml]; rfl) (Steps.refl _) (a := b14) (argsL := [(.ref r6), (.int z7)]) (rest := [(.ref b14)]) (lenOf pd_28Ljava2flang2fString3bI29V rfl) rfl (by show 2 * 0 + _ ≤ _; exact Nat.le_of_eq rfl) (hb hby at_212) (fun _ _ => ⟨rfl, e14, (by decide : 8 + 0 ≤ _), (by decide : 16 + 0 ≤ _)⟩)
              dsimp only [Pt.U, Pt.locs, Pt.cells, Pt.slots] at X15 lz15 yz15 zz15 st15 hQ15
              subst lz15 yz15 zz15
              obtain ⟨rfl, N15q, K15, Fn15, Fa15⟩ := hQ15
              have E15_r5 := Exa.keep E14_r5 K15
              have E15_r6 := Exa.keep E14_r6 K15
              have E15_b12 := Exa.keep E14_b12 K15
              have E15_b14 := Exa.keep A14 K15
              have F15_r5_coder := Fld.keep F14_r5_coder K15 (ninS ne_r5_b14 nin0)
              have F15_r5_value := Fld.keep F14_r5_value K15 (ninS ne_r5_b14 nin0)
              have F15_r6_coder := Fld.keep F14_r6_coder K15 (ninS ne_r6_b14 nin0)
              have F15_r6_value := Fld.keep F14_r6_value K15 (ninS ne_r6_b14 nin0)
              have F15_b12_name := Fld.keep F14_b12_name K15 (ninS ne_b12_b14 nin0)
              have F15_b12_arity := Fld.keep F14_b12_arity K15 (ninS ne_b12_b14 nin0)
              have A15_sb5 := Ary.keep A14_sb5 K15 (ninS ne_sb5_b14 nin0)
              have A15_sb6 := Ary.keep A14_sb6 K15 (ninS ne_sb6_b14 nin0)
              have O15 : Old Z n0 T15.heap := O14.keep K15 (allS ge_b14 all0)
              have Z15 : n0 ≤ T15.heap.size := Nat.le_trans Z14 K15.1
              have N15 := Fr.app N13 N15q
              refine go (fun _ k => st15.trans k) ?_
              show Run _ _ _ _ _ _ _ T15 (mkF m 215 #[.val (.int p0), .val (.int p1), .val (.int p2), .val (.int p3), .val (.int p4), .val (.int w5), .val (.int w6), .val (.int z1), .val (.int z2), .val (.int (1 : Int32)), .val (.int (1 : Int32)), .val (.ref r5), .val (.ref r6), .val (.int w13), .val (.int z7), .val (.int (1 : Int32)), .val (.ref b12), .unset, .unset] [(.ref b14)])
              refine go (T' := T15) (f' := (mkF m 217 #[.val (.int p0), .val (.int p1), .val (.int p2), .val (.int p3), .val (.int p4), .val (.int w5), .val (.int w6), .val (.int z1), .val (.int z2), .val (.int (1 : Int32)), .val (.int (1 : Int32)), .val (.ref r5), .val (.ref r6), .val (.int w13), .val (.int z7), .val (.int (1 : Int32)), .val (.ref b12), .val (.ref b14), .unset] [])) (by intro t k; exact XS.astore X15.here hx rfl (hb hby at_215) rfl rfl (l' := #[.val (.int p0), .val (.int p1), .val (.int p2), .val (.int p3), .val (.int p4), .val (.int w5), .val (.int w6), .val (.int z1), .val (.int z2), .val (.int (1 : Int32)), .val (.int (1 : Int32)), .val (.ref r5), .val (.ref r6), .val (.int w13), .val (.int z7), .val (.int (1 : Int32)), .val (.ref b12), .val (.ref b14), .unset]) rfl k) ?_
              refine go (T' := T15) (f' := (mkF m 219 #[.val (.int p0), .val (.int p1), .val (.int p2), .val (.int p3), .val (.int p4), .val (.int w5), .val (.int w6), .val (.int z1), .val (.int z2), .val (.int (1 : Int32)), .val (.int (1 : Int32)), .val (.ref r5), .val (.ref r6), .val (.int w13), .val (.int z7), .val (.int (1 : Int32)), .val (.ref b12), .val (.ref b14), .unset] [(.int w13)])) (by intro t k; exact XS.iload X15.here hx rfl (hb hby at_217) rfl k) ?_
              refine go (T' := T15) (f' := (mkF m 221 #[.val (.int p0), .val (.int p1), .val (.int p2), .val (.int p3), .val (.int p4), .val (.int w5), .val (.int w6), .val (.int z1), .val (.int z2), .val (.int (1 : Int32)), .val (.int (1 : Int32)), .val (.ref r5), .val (.ref r6), .val (.int w13), .val (.int z7), .val (.int (1 : Int32)), .val (.ref b12), .val (.ref b14), .unset] [(.int z7), (.int w13)])) (by intro t k; exact XS.iload X15.here hx rfl (hb hby at_219) rfl k) ?_
              obtain ⟨z16, hz16⟩ : ∃ z : Int32, z = (if w13 = z7 then (if w5 = z1 then (1 : Int32) else (0 : Int32)) else (0 : Int32)) := ⟨_, rfl⟩
              have J221 : Run p e s below (Q0 Z p0 p1 p2 p3 p4 cs h0 n0) room_1.cells room_1.slots T15 (mkF m 256 #[.val (.int p0), .val (.int p1), .val (.int p2), .val (.int p3), .val (.int p4), .val (.int w5), .val (.int w6), .val (.int z1), .val (.int z2), .val (.int (1 : Int32)), .val (.int (1 : Int32)), .val (.ref r5), .val (.ref r6), .val (.int w13), .val (.int z7), .val (.int (1 : Int32)), .val (.ref b12), .val (.ref b14), .unset] [(.int z16)]) := by
                show Run _ _ _ _ _ _ _ T15 (mkF m 256 #[.val (.int p0), .val (.int p1), .val (.int p2), .val (.int p3), .val (.int p4), .val (.int w5), .val (.int w6), .val (.int z1), .val (.int z2), .val (.int (1 : Int32)), .val (.int (1 : Int32)), .val (.ref r5), .val (.ref r6), .val (.int w13), .val (.int z7), .val (.int (1 : Int32)), .val (.ref b12), .val (.ref b14), .unset] [(.int z16)])
                refine go (T' := T15) (f' := (mkF m 258 #[.val (.int p0), .val (.int p1), .val (.int p2), .val (.int p3), .val (.int p4), .val (.int w5), .val (.int w6), .val (.int z1), .val (.int z2), .val (.int (1 : Int32)), .val (.int (1 : Int32)), .val (.ref r5), .val (.ref r6), .val (.int w13), .val (.int z7), .val (.int (1 : Int32)), .val (.ref b12), .val (.ref b14), .val (.int z16)] [])) (by intro t k; exact XS.istore X15.here hx rfl (hb hby at_256) rfl (l' := #[.val (.int p0), .val (.int p1), .val (.int p2), .val (.int p3), .val (.int p4), .val (.int w5), .val (.int w6), .val (.int z1), .val (.int z2), .val (.int (1 : Int32)), .val (.int (1 : Int32)), .val (.ref r5), .val (.ref r6), .val (.int w13), .val (.int z7), .val (.int (1 : Int32)), .val (.ref b12), .val (.ref b14), .val (.int z16)]) rfl k) ?_
                refine go (T' := T15) (f' := (mkF m 260 #[.val (.int p0), .val (.int p1), .val (.int p2), .val (.int p3), .val (.int p4), .val (.int w5), .val (.int w6), .val (.int z1), .val (.int z2), .val (.int (1 : Int32)), .val (.int (1 : Int32)), .val (.ref r5), .val (.ref r6), .val (.int w13), .val (.int z7), .val (.int (1 : Int32)), .val (.ref b12), .val (.ref b14), .val (.int z16)] [(.ref b12)])) (by intro t k; exact XS.aload X15.here hx rfl (hb hby at_258) rfl rfl k) ?_
                refine go (T' := T15) (f' := (mkF m 262 #[.val (.int p0), .val (.int p1), .val (.int p2), .val (.int p3), .val (.int p4), .val (.int w5), .val (.int w6), .val (.int z1), .val (.int z2), .val (.int (1 : Int32)), .val (.int (1 : Int32)), .val (.ref r5), .val (.ref r6), .val (.int w13), .val (.int z7), .val (.int (1 : Int32)), .val (.ref b12), .val (.ref b14), .val (.int z16)] [(.ref b14), (.ref b12)])) (by intro t k; exact XS.aload X15.here hx rfl (hb hby at_260) rfl rfl k) ?_
                obtain ⟨cq17, kq17, q17a, q17b, q17c⟩ := isOf hZ rfl E15_b12
                obtain ⟨_, _, ⟨T17, Lz17, kz17, nz17⟩, -, X17, ⟨Lc17, hQ17, lz17, yz17, zz17⟩, st17⟩ := X15.virtualBack hx (y := (⟨"com/example/backchain/backchain/model/Predicate", "equals", "(Ljava/lang/Object;)Z"⟩ : MethodName)) (z := (⟨"com/example/backchain/backchain/model/Predicate", "equals", "(Ljava/lang/Object;)Z"⟩ : MethodName)) hown (mvT hZ (hw _ (List.mem_of_getElem? (i := 51) rfl))) (mvT hZ (hw _ (List.mem_of_getElem? (i := 52) rfl))) (notFace_of_selects (args := #[]) (mvT hZ (hw _ (List.mem_of_getElem? (i := 54) rfl)))) (mvT hZ (hw _ (List.mem_of_getElem? (i := 54) rfl))) (mvT hZ (hw _ (List.mem_of_getElem? (i := 53) rfl))) (by decide) (backOf (W := 0) (rm10n11 l Z aw hw [] b12 b14 cs w13 z7 r5 r6 sb5 sb6 (nar .byte (((nar .char w5)).toInt8.toInt32)) (nar .byte (((nar .char z1)).toInt8.toInt32)) T15.heap n0 Z15 O15 S_cs hcs E15_b12 F15_b12_name F15_b12_arity E15_b14 Fn15 Fa15 E15_r5 F15_r5_coder F15_r5_value A15_sb5 E15_r6 F15_r6_coder F15_r6_value A15_sb6 ne_b12_b14 ne_r5_r6) hZ (hw _ (List.mem_of_getElem? (i := 55) rfl)) (hw _ (List.mem_of_getElem? (i := 37) rfl)) (by decide) (by decide)) q17a q17c (g := (mkF m 262 #[.val (.int p0), .val (.int p1), .val (.int p2), .val (.int p3), .val (.int p4), .val (.int w5), .val (.int w6), .val (.int z1), .val (.int z2), .val (.int (1 : Int32)), .val (.int (1 : Int32)), .val (.ref r5), .val (.ref r6), .val (.int w13), .val (.int z7), .val (.int (1 : Int32)), .val (.ref b12), .val (.ref b14), .val (.int z16)] [(.ref b14), (.ref b12)])) rfl (by rw [hml]; rfl) (Steps.refl _) (argsL := [(.ref b14)]) (rest := []) (lenOf pd_28Ljava2flang2fObject3b29Z rfl) rfl (by show 2 * 0 + _ ≤ _; exact Nat.le_of_eq rfl) (hb hby at_262) (fun _ _ => ⟨rfl, rfl, (by decide : 8 + 0 ≤ _), (by decide : 16 + 0 ≤ _)⟩)
                dsimp only [Pt.U, Pt.locs, Pt.cells, Pt.slots] at X17 lz17 yz17 zz17 st17 hQ17
                subst lz17 yz17 zz17
                obtain ⟨rfl, N17q, e17⟩ := hQ17
                have N17 := Fr.app N15 N17q
                refine go (fun _ k => st17.trans k) ?_
                show Run _ _ _ _ _ _ _ T17 (mkF m 265 #[.val (.int p0), .val (.int p1), .val (.int p2), .val (.int p3), .val (.int p4), .val (.int w5), .val (.int w6), .val (.int z1), .val (.int z2), .val (.int (1 : Int32)), .val (.int (1 : Int32)), .val (.ref r5), .val (.ref r6), .val (.int w13), .val (.int z7), .val (.int (1 : Int32)), .val (.ref b12), .val (.ref b14), .val (.int z16)] [(.int (if w13 = z7 then (if (nar .byte (((nar .char w5)).toInt8.toInt32)) = (nar .byte (((nar .char z1)).toInt8.toInt32)) then (1 : Int32) else (0 : Int32)) else (0 : Int32)))])
                refine go (T' := T17) (f' := (mkF m 267 #[.val (.int p0), .val (.int p1), .val (.int p2), .val (.int p3), .val (.int p4), .val (.int w5), .val (.int w6), .val (.int z1), .val (.int z2), .val (.int (1 : Int32)), .val (.int (1 : Int32)), .val (.ref r5), .val (.ref r6), .val (.int w13), .val (.int z7), .val (.int (1 : Int32)), .val (.ref b12), .val (.ref b14), .val (.int z16)] [(.int z16), (.int (if w13 = z7 then (if (nar .byte (((nar .char w5)).toInt8.toInt32)) = (nar .byte (((nar .char z1)).toInt8.toInt32)) then (1 : Int32) else (0 : Int32)) else (0 : Int32)))])) (by intro t k; exact XS.iload X17.here hx rfl (hb hby at_265) rfl k) ?_
                refine go (T' := T17) (f' := (mkF m 270 #[.val (.int p0), .val (.int p1), .val (.int p2), .val (.int p3), .val (.int p4), .val (.int w5), .val (.int w6), .val (.int z1), .val (.int z2), .val (.int (1 : Int32)), .val (.int (1 : Int32)), .val (.ref r5), .val (.ref r6), .val (.int w13), .val (.int z7), .val (.int (1 : Int32)), .val (.ref b12), .val (.ref b14), .val (.int z16)] [])) (by intro t k; exact XS.icmpNo X17.here hx rfl (hb hby at_267) rfl (teq ((own_law1 hc5 hc7).trans hz16.symm : (if w13 = z7 then (if (nar .byte (((nar .char w5)).toInt8.toInt32)) = (nar .byte (((nar .char z1)).toInt8.toInt32)) then (1 : Int32) else (0 : Int32)) else (0 : Int32)) = z16)).2 k) ?_
                refine go (T' := T17) (f' := (mkF m 272 #[.val (.int p0), .val (.int p1), .val (.int p2), .val (.int p3), .val (.int p4), .val (.int w5), .val (.int w6), .val (.int z1), .val (.int z2), .val (.int (1 : Int32)), .val (.int (1 : Int32)), .val (.ref r5), .val (.ref r6), .val (.int w13), .val (.int z7), .val (.int (1 : Int32)), .val (.ref b12), .val (.ref b14), .val (.int z16)] [(.ref b14)])) (by intro t k; exact XS.aload X17.here hx rfl (hb hby at_270) rfl rfl k) ?_
                refine go (T' := T17) (f' := (mkF m 274 #[.val (.int p0), .val (.int p1), .val (.int p2), .val (.int p3), .val (.int p4), .val (.int w5), .val (.int w6), .val (.int z1), .val (.int z2), .val (.int (1 : Int32)), .val (.int (1 : Int32)), .val (.ref r5), .val (.ref r6), .val (.int w13), .val (.int z7), .val (.int (1 : Int32)), .val (.ref b12), .val (.ref b14), .val (.int z16)] [(.ref b12), (.ref b14)])) (by intro t k; exact XS.aload X17.here hx rfl (hb hby at_272) rfl rfl k) ?_
                obtain ⟨cq18, kq18, q18a, q18b, q18c⟩ := isOf hZ e17 E15_b14
                obtain ⟨_, _, ⟨T18, Lz18, kz18, nz18⟩, -, X18, ⟨Lc18, hQ18, lz18, yz18, zz18⟩, st18⟩ := X17.virtualBack hx (y := (⟨"com/example/backchain/backchain/model/Predicate", "equals", "(Ljava/lang/Object;)Z"⟩ : MethodName)) (z := (⟨"com/example/backchain/backchain/model/Predicate", "equals", "(Ljava/lang/Object;)Z"⟩ : MethodName)) hown (mvT hZ (hw _ (List.mem_of_getElem? (i := 51) rfl))) (mvT hZ (hw _ (List.mem_of_getElem? (i := 52) rfl))) (notFace_of_selects (args := #[]) (mvT hZ (hw _ (List.mem_of_getElem? (i := 54) rfl)))) (mvT hZ (hw _ (List.mem_of_getElem? (i := 54) rfl))) (mvT hZ (hw _ (List.mem_of_getElem? (i := 53) rfl))) (by decide) (backOf (W := 0) (rm10n11 l Z aw hw [] b14 b12 cs z7 w13 r6 r5 sb6 sb5 (nar .byte (((nar .char z1)).toInt8.toInt32)) (nar .byte (((nar .char w5)).toInt8.toInt32)) T15.heap n0 Z15 O15 S_cs hcs E15_b14 Fn15 Fa15 E15_b12 F15_b12_name F15_b12_arity E15_r6 F15_r6_coder F15_r6_value A15_sb6 E15_r5 F15_r5_coder F15_r5_value A15_sb5 (Ne.symm ne_b12_b14) (Ne.symm ne_r5_r6)) hZ (hw _ (List.mem_of_getElem? (i := 55) rfl)) (hw _ (List.mem_of_getElem? (i := 37) rfl)) (by decide) (by decide)) q18a q18c (g := (mkF m 274 #[.val (.int p0), .val (.int p1), .val (.int p2), .val (.int p3), .val (.int p4), .val (.int w5), .val (.int w6), .val (.int z1), .val (.int z2), .val (.int (1 : Int32)), .val (.int (1 : Int32)), .val (.ref r5), .val (.ref r6), .val (.int w13), .val (.int z7), .val (.int (1 : Int32)), .val (.ref b12), .val (.ref b14), .val (.int z16)] [(.ref b12), (.ref b14)])) rfl (by rw [hml]; rfl) (Steps.refl _) (argsL := [(.ref b12)]) (rest := []) (lenOf pd_28Ljava2flang2fObject3b29Z rfl) rfl (by show 2 * 0 + _ ≤ _; exact Nat.le_of_eq rfl) (hb hby at_274) (fun _ _ => ⟨rfl, e17, (by decide : 8 + 0 ≤ _), (by decide : 16 + 0 ≤ _)⟩)
                dsimp only [Pt.U, Pt.locs, Pt.cells, Pt.slots] at X18 lz18 yz18 zz18 st18 hQ18
                subst lz18 yz18 zz18
                obtain ⟨rfl, N18q, e18⟩ := hQ18
                have N18 := Fr.app N17 N18q
                refine go (fun _ k => st18.trans k) ?_
                show Run _ _ _ _ _ _ _ T18 (mkF m 277 #[.val (.int p0), .val (.int p1), .val (.int p2), .val (.int p3), .val (.int p4), .val (.int w5), .val (.int w6), .val (.int z1), .val (.int z2), .val (.int (1 : Int32)), .val (.int (1 : Int32)), .val (.ref r5), .val (.ref r6), .val (.int w13), .val (.int z7), .val (.int (1 : Int32)), .val (.ref b12), .val (.ref b14), .val (.int z16)] [(.int (if z7 = w13 then (if (nar .byte (((nar .char z1)).toInt8.toInt32)) = (nar .byte (((nar .char w5)).toInt8.toInt32)) then (1 : Int32) else (0 : Int32)) else (0 : Int32)))])
                refine go (T' := T18) (f' := (mkF m 279 #[.val (.int p0), .val (.int p1), .val (.int p2), .val (.int p3), .val (.int p4), .val (.int w5), .val (.int w6), .val (.int z1), .val (.int z2), .val (.int (1 : Int32)), .val (.int (1 : Int32)), .val (.ref r5), .val (.ref r6), .val (.int w13), .val (.int z7), .val (.int (1 : Int32)), .val (.ref b12), .val (.ref b14), .val (.int z16)] [(.int z16), (.int (if z7 = w13 then (if (nar .byte (((nar .char z1)).toInt8.toInt32)) = (nar .byte (((nar .char w5)).toInt8.toInt32)) then (1 : Int32) else (0 : Int32)) else (0 : Int32)))])) (by intro t k; exact XS.iload X18.here hx rfl (hb hby at_277) rfl k) ?_
                refine go (T' := T18) (f' := (mkF m 282 #[.val (.int p0), .val (.int p1), .val (.int p2), .val (.int p3), .val (.int p4), .val (.int w5), .val (.int w6), .val (.int z1), .val (.int z2), .val (.int (1 : Int32)), .val (.int (1 : Int32)), .val (.ref r5), .val (.ref r6), .val (.int w13), .val (.int z7), .val (.int (1 : Int32)), .val (.ref b12), .val (.ref b14), .val (.int z16)] [])) (by intro t k; exact XS.icmpNo X18.here hx rfl (hb hby at_279) rfl (teq ((own_law1' hc5 hc7).trans hz16.symm : (if z7 = w13 then (if (nar .byte (((nar .char z1)).toInt8.toInt32)) = (nar .byte (((nar .char w5)).toInt8.toInt32)) then (1 : Int32) else (0 : Int32)) else (0 : Int32)) = z16)).2 k) ?_
                refine go (T' := T18) (f' := (mkF m 283 #[.val (.int p0), .val (.int p1), .val (.int p2), .val (.int p3), .val (.int p4), .val (.int w5), .val (.int w6), .val (.int z1), .val (.int z2), .val (.int (1 : Int32)), .val (.int (1 : Int32)), .val (.ref r5), .val (.ref r6), .val (.int w13), .val (.int z7), .val (.int (1 : Int32)), .val (.ref b12), .val (.ref b14), .val (.int z16)] [(.int (1 : Int32))])) (by intro t k; exact XS.iconst X18.here hx rfl (hb hby at_282) k) ?_
                refine go (T' := T18) (f' := (mkF m 287 #[.val (.int p0), .val (.int p1), .val (.int p2), .val (.int p3), .val (.int p4), .val (.int w5), .val (.int w6), .val (.int z1), .val (.int z2), .val (.int (1 : Int32)), .val (.int (1 : Int32)), .val (.ref r5), .val (.ref r6), .val (.int w13), .val (.int z7), .val (.int (1 : Int32)), .val (.ref b12), .val (.ref b14), .val (.int z16)] [(.int (1 : Int32))])) (by intro t k; exact XS.goto X18.here hx rfl (pc0 := 283) (pc' := 287) rfl (hb hby at_283) (by decide) (by decide) k) ?_
                refine retZ X18 hx (t := .boolean) Bd.returns (by simp) (hb hby at_287) hlk (by decide) (by decide) ?_
                show Q0 Z p0 p1 p2 p3 p4 cs h0 n0 _ T18.heap _
                rw [e18]
                have hv' : (nar .boolean (1 : Int32)) = (1 : Int32) := by
                  rfl
                have hv : (some (.int (nar .boolean (1 : Int32))) : Option Value) = some (.int (1 : Int32)) := congrArg (fun z => (some (.int z) : Option Value)) hv'
                exact ⟨hv, N18⟩
              show Run _ _ _ _ _ _ _ T15 (mkF m 221 #[.val (.int p0), .val (.int p1), .val (.int p2), .val (.int p3), .val (.int p4), .val (.int w5), .val (.int w6), .val (.int z1), .val (.int z2), .val (.int (1 : Int32)), .val (.int (1 : Int32)), .val (.ref r5), .val (.ref r6), .val (.int w13), .val (.int z7), .val (.int (1 : Int32)), .val (.ref b12), .val (.ref b14), .unset] [(.int z7), (.int w13)])
              by_cases hc221 : w13 = z7
              · refine go (T' := T15) (f' := (mkF m 224 #[.val (.int p0), .val (.int p1), .val (.int p2), .val (.int p3), .val (.int p4), .val (.int w5), .val (.int w6), .val (.int z1), .val (.int z2), .val (.int (1 : Int32)), .val (.int (1 : Int32)), .val (.ref r5), .val (.ref r6), .val (.int w13), .val (.int z7), .val (.int (1 : Int32)), .val (.ref b12), .val (.ref b14), .unset] [])) (by intro t k; exact XS.icmpNo X15.here hx rfl (hb hby at_221) rfl (teq hc221).2 k) ?_
                refine go (T' := T15) (f' := (mkF m 226 #[.val (.int p0), .val (.int p1), .val (.int p2), .val (.int p3), .val (.int p4), .val (.int w5), .val (.int w6), .val (.int z1), .val (.int z2), .val (.int (1 : Int32)), .val (.int (1 : Int32)), .val (.ref r5), .val (.ref r6), .val (.int w13), .val (.int z7), .val (.int (1 : Int32)), .val (.ref b12), .val (.ref b14), .unset] [(.int (1 : Int32))])) (by intro t k; exact XS.iload X15.here hx rfl (hb hby at_224) rfl k) ?_
                refine go (T' := T15) (f' := (mkF m 228 #[.val (.int p0), .val (.int p1), .val (.int p2), .val (.int p3), .val (.int p4), .val (.int w5), .val (.int w6), .val (.int z1), .val (.int z2), .val (.int (1 : Int32)), .val (.int (1 : Int32)), .val (.ref r5), .val (.ref r6), .val (.int w13), .val (.int z7), .val (.int (1 : Int32)), .val (.ref b12), .val (.ref b14), .unset] [(.int (1 : Int32)), (.int (1 : Int32))])) (by intro t k; exact XS.iload X15.here hx rfl (hb hby at_226) rfl k) ?_
                refine go (T' := T15) (f' := (mkF m 231 #[.val (.int p0), .val (.int p1), .val (.int p2), .val (.int p3), .val (.int p4), .val (.int w5), .val (.int w6), .val (.int z1), .val (.int z2), .val (.int (1 : Int32)), .val (.int (1 : Int32)), .val (.ref r5), .val (.ref r6), .val (.int w13), .val (.int z7), .val (.int (1 : Int32)), .val (.ref b12), .val (.ref b14), .unset] [])) (by intro t k; exact XS.icmpNo X15.here hx rfl (hb hby at_228) rfl (teq (rfl : (1 : Int32) = (1 : Int32))).2 k) ?_
                refine go (T' := T15) (f' := (mkF m 233 #[.val (.int p0), .val (.int p1), .val (.int p2), .val (.int p3), .val (.int p4), .val (.int w5), .val (.int w6), .val (.int z1), .val (.int z2), .val (.int (1 : Int32)), .val (.int (1 : Int32)), .val (.ref r5), .val (.ref r6), .val (.int w13), .val (.int z7), .val (.int (1 : Int32)), .val (.ref b12), .val (.ref b14), .unset] [(.int w5)])) (by intro t k; exact XS.iload X15.here hx rfl (hb hby at_231) rfl k) ?_
                refine go (T' := T15) (f' := (mkF m 235 #[.val (.int p0), .val (.int p1), .val (.int p2), .val (.int p3), .val (.int p4), .val (.int w5), .val (.int w6), .val (.int z1), .val (.int z2), .val (.int (1 : Int32)), .val (.int (1 : Int32)), .val (.ref r5), .val (.ref r6), .val (.int w13), .val (.int z7), .val (.int (1 : Int32)), .val (.ref b12), .val (.ref b14), .unset] [(.int z1), (.int w5)])) (by intro t k; exact XS.iload X15.here hx rfl (hb hby at_233) rfl k) ?_
                by_cases hc235 : w5 = z1
                · refine go (T' := T15) (f' := (mkF m 238 #[.val (.int p0), .val (.int p1), .val (.int p2), .val (.int p3), .val (.int p4), .val (.int w5), .val (.int w6), .val (.int z1), .val (.int z2), .val (.int (1 : Int32)), .val (.int (1 : Int32)), .val (.ref r5), .val (.ref r6), .val (.int w13), .val (.int z7), .val (.int (1 : Int32)), .val (.ref b12), .val (.ref b14), .unset] [])) (by intro t k; exact XS.icmpNo X15.here hx rfl (hb hby at_235) rfl (teq hc235).2 k) ?_
                  refine go (T' := T15) (f' := (mkF m 240 #[.val (.int p0), .val (.int p1), .val (.int p2), .val (.int p3), .val (.int p4), .val (.int w5), .val (.int w6), .val (.int z1), .val (.int z2), .val (.int (1 : Int32)), .val (.int (1 : Int32)), .val (.ref r5), .val (.ref r6), .val (.int w13), .val (.int z7), .val (.int (1 : Int32)), .val (.ref b12), .val (.ref b14), .unset] [(.int (1 : Int32))])) (by intro t k; exact XS.iload X15.here hx rfl (hb hby at_238) rfl k) ?_
                  refine go (T' := T15) (f' := (mkF m 241 #[.val (.int p0), .val (.int p1), .val (.int p2), .val (.int p3), .val (.int p4), .val (.int w5), .val (.int w6), .val (.int z1), .val (.int z2), .val (.int (1 : Int32)), .val (.int (1 : Int32)), .val (.ref r5), .val (.ref r6), .val (.int w13), .val (.int z7), .val (.int (1 : Int32)), .val (.ref b12), .val (.ref b14), .unset] [(.int (1 : Int32)), (.int (1 : Int32))])) (by intro t k; exact XS.iconst X15.here hx rfl (hb hby at_240) k) ?_
                  refine go (T' := T15) (f' := (mkF m 251 #[.val (.int p0), .val (.int p1), .val (.int p2), .val (.int p3), .val (.int p4), .val (.int w5), .val (.int w6), .val (.int z1), .val (.int z2), .val (.int (1 : Int32)), .val (.int (1 : Int32)), .val (.ref r5), .val (.ref r6), .val (.int w13), .val (.int z7), .val (.int (1 : Int32)), .val (.ref b12), .val (.ref b14), .unset] [])) (by intro t k; exact XS.icmpYes X15.here hx rfl (pc0 := 241) (pc' := 251) rfl (hb hby at_241) rfl (teq (rfl : (1 : Int32) = (1 : Int32))).1 (by decide) (by decide) k) ?_
                  refine go (T' := T15) (f' := (mkF m 252 #[.val (.int p0), .val (.int p1), .val (.int p2), .val (.int p3), .val (.int p4), .val (.int w5), .val (.int w6), .val (.int z1), .val (.int z2), .val (.int (1 : Int32)), .val (.int (1 : Int32)), .val (.ref r5), .val (.ref r6), .val (.int w13), .val (.int z7), .val (.int (1 : Int32)), .val (.ref b12), .val (.ref b14), .unset] [(.int (1 : Int32))])) (by intro t k; exact XS.iconst X15.here hx rfl (hb hby at_251) k) ?_
                  refine go (T' := T15) (f' := (mkF m 256 #[.val (.int p0), .val (.int p1), .val (.int p2), .val (.int p3), .val (.int p4), .val (.int w5), .val (.int w6), .val (.int z1), .val (.int z2), .val (.int (1 : Int32)), .val (.int (1 : Int32)), .val (.ref r5), .val (.ref r6), .val (.int w13), .val (.int z7), .val (.int (1 : Int32)), .val (.ref b12), .val (.ref b14), .unset] [(.int (1 : Int32))])) (by intro t k; exact XS.goto X15.here hx rfl (pc0 := 252) (pc' := 256) rfl (hb hby at_252) (by decide) (by decide) k) ?_
                  have ez16 : z16 = (1 : Int32) := ((hz16).trans (if_pos hc221)).trans (if_pos hc235)
                  subst ez16
                  exact J221
                · refine go (T' := T15) (f' := (mkF m 255 #[.val (.int p0), .val (.int p1), .val (.int p2), .val (.int p3), .val (.int p4), .val (.int w5), .val (.int w6), .val (.int z1), .val (.int z2), .val (.int (1 : Int32)), .val (.int (1 : Int32)), .val (.ref r5), .val (.ref r6), .val (.int w13), .val (.int z7), .val (.int (1 : Int32)), .val (.ref b12), .val (.ref b14), .unset] [])) (by intro t k; exact XS.icmpYes X15.here hx rfl (pc0 := 235) (pc' := 255) rfl (hb hby at_235) rfl (feq hc235).2 (by decide) (by decide) k) ?_
                  refine go (T' := T15) (f' := (mkF m 256 #[.val (.int p0), .val (.int p1), .val (.int p2), .val (.int p3), .val (.int p4), .val (.int w5), .val (.int w6), .val (.int z1), .val (.int z2), .val (.int (1 : Int32)), .val (.int (1 : Int32)), .val (.ref r5), .val (.ref r6), .val (.int w13), .val (.int z7), .val (.int (1 : Int32)), .val (.ref b12), .val (.ref b14), .unset] [(.int (0 : Int32))])) (by intro t k; exact XS.iconst X15.here hx rfl (hb hby at_255) k) ?_
                  have ez16 : z16 = (0 : Int32) := ((hz16).trans (if_pos hc221)).trans (if_neg hc235)
                  subst ez16
                  exact J221
              · refine go (T' := T15) (f' := (mkF m 255 #[.val (.int p0), .val (.int p1), .val (.int p2), .val (.int p3), .val (.int p4), .val (.int w5), .val (.int w6), .val (.int z1), .val (.int z2), .val (.int (1 : Int32)), .val (.int (1 : Int32)), .val (.ref r5), .val (.ref r6), .val (.int w13), .val (.int z7), .val (.int (1 : Int32)), .val (.ref b12), .val (.ref b14), .unset] [])) (by intro t k; exact XS.icmpYes X15.here hx rfl (pc0 := 221) (pc' := 255) rfl (hb hby at_221) rfl (feq hc221).2 (by decide) (by decide) k) ?_
                refine go (T' := T15) (f' := (mkF m 256 #[.val (.int p0), .val (.int p1), .val (.int p2), .val (.int p3), .val (.int p4), .val (.int w5), .val (.int w6), .val (.int z1), .val (.int z2), .val (.int (1 : Int32)), .val (.int (1 : Int32)), .val (.ref r5), .val (.ref r6), .val (.int w13), .val (.int z7), .val (.int (1 : Int32)), .val (.ref b12), .val (.ref b14), .unset] [(.int (0 : Int32))])) (by intro t k; exact XS.iconst X15.here hx rfl (hb hby at_255) k) ?_
                have ez16 : z16 = (0 : Int32) := (hz16).trans (if_neg hc221)
                subst ez16
                exact J221
            · subst ez
              show Run _ _ _ _ _ _ _ T6 (mkF m 135 #[.val (.int p0), .val (.int p1), .val (.int p2), .val (.int p3), .val (.int p4), .val (.int w5), .val (.int w6), .val (.int z1), .val (.int z2), .val (.int (1 : Int32)), .val (.int (1 : Int32)), .val (.ref r5), .val (.ref r6), .val (.int w13), .val (.int z7), .val (.int (2 : Int32)), .unset, .unset, .unset] [])
              obtain ⟨T19, h19, X19, e19, E19, A19, D19, -, st19⟩ := newO X6 hx hZ hown (hw _ (List.mem_of_getElem? (i := 35) rfl)) (hw _ (List.mem_of_getElem? (i := 36) rfl)) (hw _ (List.mem_of_getElem? (i := 37) rfl)) rfl (g := (mkF m 135 #[.val (.int p0), .val (.int p1), .val (.int p2), .val (.int p3), .val (.int p4), .val (.int w5), .val (.int w6), .val (.int z1), .val (.int z2), .val (.int (1 : Int32)), .val (.int (1 : Int32)), .val (.ref r5), .val (.ref r6), .val (.int w13), .val (.int z7), .val (.int (2 : Int32)), .unset, .unset, .unset] [])) rfl (hb hby at_135) (by decide) (by decide)
              obtain ⟨b19, g19⟩ : ∃ z, z = T6.heap.size := ⟨_, rfl⟩
              rw [← g19] at A19 D19 st19
              have ne_r5_b19 : r5 ≠ b19 := Nat.ne_of_lt (Nat.lt_of_lt_of_eq E6_r5.lt g19.symm)
              have ne_r6_b19 : r6 ≠ b19 := Nat.ne_of_lt (Nat.lt_of_lt_of_eq E6.lt g19.symm)
              have ne_sb5_b19 : sb5 ≠ b19 := Nat.ne_of_lt (Nat.lt_of_lt_of_eq A6_sb5.lt g19.symm)
              have ne_sb6_b19 : sb6 ≠ b19 := Nat.ne_of_lt (Nat.lt_of_lt_of_eq Ab6.lt g19.symm)
              have ge_b19 : n0 ≤ b19 := Nat.le_trans Z6 (Nat.le_of_eq g19.symm)
              have K19 : Keep T6.heap h19 [] := (Keep.refl _ _).ext E19
              have E19_r5 := Exa.keep E6_r5 K19
              have E19_r6 := Exa.keep E6 K19
              have F19_r5_coder := Fld.keep F6_r5_coder K19 nin0
              have F19_r5_value := Fld.keep F6_r5_value K19 nin0
              have F19_r6_coder := Fld.keep Fc6 K19 nin0
              have F19_r6_value := Fld.keep Fv6 K19 nin0
              have A19_sb5 := Ary.keep A6_sb5 K19 nin0
              have A19_sb6 := Ary.keep Ab6 K19 nin0
              have O19 : Old Z n0 h19 := O6.keep K19 all0
              have Z19 : n0 ≤ h19.size := Nat.le_trans Z6 K19.1
              have F19_b19_name : Fld Z h19 b19 "com/example/backchain/backchain/model/Predicate" "name" "Ljava/lang/String;" .null := D19 (Or.inr (hw _ (List.mem_of_getElem? (i := 48) rfl))) (ty := (.object "java/lang/String")) (by decide)
              have F19_b19_arity : Fld Z h19 b19 "com/example/backchain/backchain/model/Predicate" "arity" "I" (.int (0 : Int32)) := D19 (Or.inr (hw _ (List.mem_of_getElem? (i := 50) rfl))) (ty := .int) (by decide)
              refine go st19 ?_
              show Run _ _ _ _ _ _ _ T19 (mkF m 138 #[.val (.int p0), .val (.int p1), .val (.int p2), .val (.int p3), .val (.int p4), .val (.int w5), .val (.int w6), .val (.int z1), .val (.int z2), .val (.int (1 : Int32)), .val (.int (1 : Int32)), .val (.ref r5), .val (.ref r6), .val (.int w13), .val (.int z7), .val (.int (2 : Int32)), .unset, .unset, .unset] [(.ref b19)])
              refine go (T' := T19) (f' := (mkF m 139 #[.val (.int p0), .val (.int p1), .val (.int p2), .val (.int p3), .val (.int p4), .val (.int w5), .val (.int w6), .val (.int z1), .val (.int z2), .val (.int (1 : Int32)), .val (.int (1 : Int32)), .val (.ref r5), .val (.ref r6), .val (.int w13), .val (.int z7), .val (.int (2 : Int32)), .unset, .unset, .unset] [(.ref b19), (.ref b19)])) (by intro t k; exact XS.dup X19.here hx rfl (hb hby at_138) rfl rfl k) ?_
              refine go (T' := T19) (f' := (mkF m 141 #[.val (.int p0), .val (.int p1), .val (.int p2), .val (.int p3), .val (.int p4), .val (.int w5), .val (.int w6), .val (.int z1), .val (.int z2), .val (.int (1 : Int32)), .val (.int (1 : Int32)), .val (.ref r5), .val (.ref r6), .val (.int w13), .val (.int z7), .val (.int (2 : Int32)), .unset, .unset, .unset] [(.ref r5), (.ref b19), (.ref b19)])) (by intro t k; exact XS.aload X19.here hx rfl (hb hby at_139) rfl rfl k) ?_
              refine go (T' := T19) (f' := (mkF m 143 #[.val (.int p0), .val (.int p1), .val (.int p2), .val (.int p3), .val (.int p4), .val (.int w5), .val (.int w6), .val (.int z1), .val (.int z2), .val (.int (1 : Int32)), .val (.int (1 : Int32)), .val (.ref r5), .val (.ref r6), .val (.int w13), .val (.int z7), .val (.int (2 : Int32)), .unset, .unset, .unset] [(.int w13), (.ref r5), (.ref b19), (.ref b19)])) (by intro t k; exact XS.iload X19.here hx rfl (hb hby at_141) rfl k) ?_
              obtain ⟨_, _, ⟨T20, Lz20, kz20, nz20⟩, -, X20, ⟨Lc20, hQ20, lz20, yz20, zz20⟩, st20⟩ := X19.specialBack hx (y := (⟨"com/example/backchain/backchain/model/Predicate", "<init>", "(Ljava/lang/String;I)V"⟩ : MethodName)) rfl hown (mvT hZ (hw _ (List.mem_of_getElem? (i := 38) rfl))) (mvT hZ (hw _ (List.mem_of_getElem? (i := 39) rfl))) (mvT hZ (hw _ (List.mem_of_getElem? (i := 40) rfl))) (by decide) (backOf (W := 1) (rm8 l Z aw hw [] b19 r5 w13 sb5 [(.int (nar .byte (((nar .char w5)).toInt8.toInt32)))] (1 : Int32) h19 n0 Z19 A19 F19_b19_name F19_b19_arity ge_b19 E19_r5 F19_r5_value A19_sb5 (Ne.symm ne_r5_b19) (Ne.symm ne_sb5_b19) rfl (by decide) ha13) hZ (hw _ (List.mem_of_getElem? (i := 40) rfl)) (hw _ (List.mem_of_getElem? (i := 37) rfl)) (by decide) (by decide)) (g := (mkF m 143 #[.val (.int p0), .val (.int p1), .val (.int p2), .val (.int p3), .val (.int p4), .val (.int w5), .val (.int w6), .val (.int z1), .val (.int z2), .val (.int (1 : Int32)), .val (.int (1 : Int32)), .val (.ref r5), .val (.ref r6), .val (.int w13), .val (.int z7), .val (.int (2 : Int32)), .unset, .unset, .unset] [(.int w13), (.ref r5), (.ref b19), (.ref b19)])) rfl (by rw [hml]; rfl) (Steps.refl _) (a := b19) (argsL := [(.ref r5), (.int w13)]) (rest := [(.ref b19)]) (lenOf pd_28Ljava2flang2fString3bI29V rfl) rfl (by show 2 * 0 + _ ≤ _; exact Nat.le_of_eq rfl) (hb hby at_143) (fun _ _ => ⟨rfl, e19, (by decide : 7 + 0 ≤ _), (by decide : 14 + 0 ≤ _)⟩)
              dsimp only [Pt.U, Pt.locs, Pt.cells, Pt.slots] at X20 lz20 yz20 zz20 st20 hQ20
              subst lz20 yz20 zz20
              obtain ⟨rfl, N20q, K20, Fn20, Fa20⟩ := hQ20
              have E20_r5 := Exa.keep E19_r5 K20
              have E20_r6 := Exa.keep E19_r6 K20
              have E20_b19 := Exa.keep A19 K20
              have F20_r5_coder := Fld.keep F19_r5_coder K20 (ninS ne_r5_b19 nin0)
              have F20_r5_value := Fld.keep F19_r5_value K20 (ninS ne_r5_b19 nin0)
              have F20_r6_coder := Fld.keep F19_r6_coder K20 (ninS ne_r6_b19 nin0)
              have F20_r6_value := Fld.keep F19_r6_value K20 (ninS ne_r6_b19 nin0)
              have A20_sb5 := Ary.keep A19_sb5 K20 (ninS ne_sb5_b19 nin0)
              have A20_sb6 := Ary.keep A19_sb6 K20 (ninS ne_sb6_b19 nin0)
              have O20 : Old Z n0 T20.heap := O19.keep K20 (allS ge_b19 all0)
              have Z20 : n0 ≤ T20.heap.size := Nat.le_trans Z19 K20.1
              have N20 := Fr.app N6 N20q
              refine go (fun _ k => st20.trans k) ?_
              show Run _ _ _ _ _ _ _ T20 (mkF m 146 #[.val (.int p0), .val (.int p1), .val (.int p2), .val (.int p3), .val (.int p4), .val (.int w5), .val (.int w6), .val (.int z1), .val (.int z2), .val (.int (1 : Int32)), .val (.int (1 : Int32)), .val (.ref r5), .val (.ref r6), .val (.int w13), .val (.int z7), .val (.int (2 : Int32)), .unset, .unset, .unset] [(.ref b19)])
              refine go (T' := T20) (f' := (mkF m 148 #[.val (.int p0), .val (.int p1), .val (.int p2), .val (.int p3), .val (.int p4), .val (.int w5), .val (.int w6), .val (.int z1), .val (.int z2), .val (.int (1 : Int32)), .val (.int (1 : Int32)), .val (.ref r5), .val (.ref r6), .val (.int w13), .val (.int z7), .val (.int (2 : Int32)), .val (.ref b19), .unset, .unset] [])) (by intro t k; exact XS.astore X20.here hx rfl (hb hby at_146) rfl rfl (l' := #[.val (.int p0), .val (.int p1), .val (.int p2), .val (.int p3), .val (.int p4), .val (.int w5), .val (.int w6), .val (.int z1), .val (.int z2), .val (.int (1 : Int32)), .val (.int (1 : Int32)), .val (.ref r5), .val (.ref r6), .val (.int w13), .val (.int z7), .val (.int (2 : Int32)), .val (.ref b19), .unset, .unset]) rfl k) ?_
              refine go (T' := T20) (f' := (mkF m 150 #[.val (.int p0), .val (.int p1), .val (.int p2), .val (.int p3), .val (.int p4), .val (.int w5), .val (.int w6), .val (.int z1), .val (.int z2), .val (.int (1 : Int32)), .val (.int (1 : Int32)), .val (.ref r5), .val (.ref r6), .val (.int w13), .val (.int z7), .val (.int (2 : Int32)), .val (.ref b19), .unset, .unset] [(.int (2 : Int32))])) (by intro t k; exact XS.iload X20.here hx rfl (hb hby at_148) rfl k) ?_
              refine go (T' := T20) (f' := (mkF m 161 #[.val (.int p0), .val (.int p1), .val (.int p2), .val (.int p3), .val (.int p4), .val (.int w5), .val (.int w6), .val (.int z1), .val (.int z2), .val (.int (1 : Int32)), .val (.int (1 : Int32)), .val (.ref r5), .val (.ref r6), .val (.int w13), .val (.int z7), .val (.int (2 : Int32)), .val (.ref b19), .unset, .unset] [])) (by intro t k; exact XS.ifYes X20.here hx rfl (pc0 := 150) (pc' := 161) rfl (hb hby at_150) rfl ((if0 _ _).trans (feq (by decide : ¬ ((2 : Int32) = (0 : Int32)))).2) (by decide) (by decide) k) ?_
              refine go (T' := T20) (f' := (mkF m 163 #[.val (.int p0), .val (.int p1), .val (.int p2), .val (.int p3), .val (.int p4), .val (.int w5), .val (.int w6), .val (.int z1), .val (.int z2), .val (.int (1 : Int32)), .val (.int (1 : Int32)), .val (.ref r5), .val (.ref r6), .val (.int w13), .val (.int z7), .val (.int (2 : Int32)), .val (.ref b19), .unset, .unset] [(.int (2 : Int32))])) (by intro t k; exact XS.iload X20.here hx rfl (hb hby at_161) rfl k) ?_
              refine go (T' := T20) (f' := (mkF m 164 #[.val (.int p0), .val (.int p1), .val (.int p2), .val (.int p3), .val (.int p4), .val (.int w5), .val (.int w6), .val (.int z1), .val (.int z2), .val (.int (1 : Int32)), .val (.int (1 : Int32)), .val (.ref r5), .val (.ref r6), .val (.int w13), .val (.int z7), .val (.int (2 : Int32)), .val (.ref b19), .unset, .unset] [(.int (2 : Int32)), (.int (2 : Int32))])) (by intro t k; exact XS.iconst X20.here hx rfl (hb hby at_163) k) ?_
              refine go (T' := T20) (f' := (mkF m 167 #[.val (.int p0), .val (.int p1), .val (.int p2), .val (.int p3), .val (.int p4), .val (.int w5), .val (.int w6), .val (.int z1), .val (.int z2), .val (.int (1 : Int32)), .val (.int (1 : Int32)), .val (.ref r5), .val (.ref r6), .val (.int w13), .val (.int z7), .val (.int (2 : Int32)), .val (.ref b19), .unset, .unset] [])) (by intro t k; exact XS.icmpNo X20.here hx rfl (hb hby at_164) rfl (teq (rfl : (2 : Int32) = (2 : Int32))).2 k) ?_
              refine go (T' := T20) (f' := (mkF m 169 #[.val (.int p0), .val (.int p1), .val (.int p2), .val (.int p3), .val (.int p4), .val (.int w5), .val (.int w6), .val (.int z1), .val (.int z2), .val (.int (1 : Int32)), .val (.int (1 : Int32)), .val (.ref r5), .val (.ref r6), .val (.int w13), .val (.int z7), .val (.int (2 : Int32)), .val (.ref b19), .unset, .unset] [(.ref b19)])) (by intro t k; exact XS.aload X20.here hx rfl (hb hby at_167) rfl rfl k) ?_
              refine go (T' := T20) (f' := (mkF m 171 #[.val (.int p0), .val (.int p1), .val (.int p2), .val (.int p3), .val (.int p4), .val (.int w5), .val (.int w6), .val (.int z1), .val (.int z2), .val (.int (1 : Int32)), .val (.int (1 : Int32)), .val (.ref r5), .val (.ref r6), .val (.int w13), .val (.int z7), .val (.int (2 : Int32)), .val (.ref b19), .unset, .unset] [(.ref r5), (.ref b19)])) (by intro t k; exact XS.aload X20.here hx rfl (hb hby at_169) rfl rfl k) ?_
              obtain ⟨cq21, kq21, q21a, q21b, q21c⟩ := isOf hZ rfl E20_b19
              obtain ⟨_, _, ⟨T21, Lz21, kz21, nz21⟩, -, X21, ⟨Lc21, hQ21, lz21, yz21, zz21⟩, st21⟩ := X20.virtualBack hx (y := (⟨"com/example/backchain/backchain/model/Predicate", "equals", "(Ljava/lang/Object;)Z"⟩ : MethodName)) (z := (⟨"com/example/backchain/backchain/model/Predicate", "equals", "(Ljava/lang/Object;)Z"⟩ : MethodName)) hown (mvT hZ (hw _ (List.mem_of_getElem? (i := 51) rfl))) (mvT hZ (hw _ (List.mem_of_getElem? (i := 52) rfl))) (notFace_of_selects (args := #[]) (mvT hZ (hw _ (List.mem_of_getElem? (i := 54) rfl)))) (mvT hZ (hw _ (List.mem_of_getElem? (i := 54) rfl))) (mvT hZ (hw _ (List.mem_of_getElem? (i := 53) rfl))) (by decide) (backOf (W := 0) (rm10t l Z aw hw [] b19 r5  T20.heap n0 Z20 E20_r5 (Ne.symm ne_r5_b19)) hZ (hw _ (List.mem_of_getElem? (i := 55) rfl)) (hw _ (List.mem_of_getElem? (i := 37) rfl)) (by decide) (by decide)) q21a q21c (g := (mkF m 171 #[.val (.int p0), .val (.int p1), .val (.int p2), .val (.int p3), .val (.int p4), .val (.int w5), .val (.int w6), .val (.int z1), .val (.int z2), .val (.int (1 : Int32)), .val (.int (1 : Int32)), .val (.ref r5), .val (.ref r6), .val (.int w13), .val (.int z7), .val (.int (2 : Int32)), .val (.ref b19), .unset, .unset] [(.ref r5), (.ref b19)])) rfl (by rw [hml]; rfl) (Steps.refl _) (argsL := [(.ref r5)]) (rest := []) (lenOf pd_28Ljava2flang2fObject3b29Z rfl) rfl (by show 2 * 0 + _ ≤ _; exact Nat.le_of_eq rfl) (hb hby at_171) (fun _ _ => ⟨rfl, rfl, (by decide : 7 + 0 ≤ _), (by decide : 14 + 0 ≤ _)⟩)
              dsimp only [Pt.U, Pt.locs, Pt.cells, Pt.slots] at X21 lz21 yz21 zz21 st21 hQ21
              subst lz21 yz21 zz21
              obtain ⟨rfl, N21q, e21⟩ := hQ21
              have N21 := Fr.app N20 N21q
              refine go (fun _ k => st21.trans k) ?_
              show Run _ _ _ _ _ _ _ T21 (mkF m 174 #[.val (.int p0), .val (.int p1), .val (.int p2), .val (.int p3), .val (.int p4), .val (.int w5), .val (.int w6), .val (.int z1), .val (.int z2), .val (.int (1 : Int32)), .val (.int (1 : Int32)), .val (.ref r5), .val (.ref r6), .val (.int w13), .val (.int z7), .val (.int (2 : Int32)), .val (.ref b19), .unset, .unset] [(.int (0 : Int32))])
              refine go (T' := T21) (f' := (mkF m 177 #[.val (.int p0), .val (.int p1), .val (.int p2), .val (.int p3), .val (.int p4), .val (.int w5), .val (.int w6), .val (.int z1), .val (.int z2), .val (.int (1 : Int32)), .val (.int (1 : Int32)), .val (.ref r5), .val (.ref r6), .val (.int w13), .val (.int z7), .val (.int (2 : Int32)), .val (.ref b19), .unset, .unset] [])) (by intro t k; exact XS.ifNo X21.here hx rfl (hb hby at_174) rfl ((if0 _ _).trans (teq (rfl : (0 : Int32) = (0 : Int32))).2) k) ?_
              refine go (T' := T21) (f' := (mkF m 178 #[.val (.int p0), .val (.int p1), .val (.int p2), .val (.int p3), .val (.int p4), .val (.int w5), .val (.int w6), .val (.int z1), .val (.int z2), .val (.int (1 : Int32)), .val (.int (1 : Int32)), .val (.ref r5), .val (.ref r6), .val (.int w13), .val (.int z7), .val (.int (2 : Int32)), .val (.ref b19), .unset, .unset] [(.int (1 : Int32))])) (by intro t k; exact XS.iconst X21.here hx rfl (hb hby at_177) k) ?_
              refine go (T' := T21) (f' := (mkF m 182 #[.val (.int p0), .val (.int p1), .val (.int p2), .val (.int p3), .val (.int p4), .val (.int w5), .val (.int w6), .val (.int z1), .val (.int z2), .val (.int (1 : Int32)), .val (.int (1 : Int32)), .val (.ref r5), .val (.ref r6), .val (.int w13), .val (.int z7), .val (.int (2 : Int32)), .val (.ref b19), .unset, .unset] [(.int (1 : Int32))])) (by intro t k; exact XS.goto X21.here hx rfl (pc0 := 178) (pc' := 182) rfl (hb hby at_178) (by decide) (by decide) k) ?_
              refine retZ X21 hx (t := .boolean) Bd.returns (by simp) (hb hby at_182) hlk (by decide) (by decide) ?_
              show Q0 Z p0 p1 p2 p3 p4 cs h0 n0 _ T21.heap _
              rw [e21]
              have hv' : (nar .boolean (1 : Int32)) = (1 : Int32) := by
                rfl
              have hv : (some (.int (nar .boolean (1 : Int32))) : Option Value) = some (.int (1 : Int32)) := congrArg (fun z => (some (.int z) : Option Value)) hv'
              exact ⟨hv, N21⟩
            · subst ez
              show Run _ _ _ _ _ _ _ T6 (mkF m 135 #[.val (.int p0), .val (.int p1), .val (.int p2), .val (.int p3), .val (.int p4), .val (.int w5), .val (.int w6), .val (.int z1), .val (.int z2), .val (.int (1 : Int32)), .val (.int (1 : Int32)), .val (.ref r5), .val (.ref r6), .val (.int w13), .val (.int z7), .val (.int (3 : Int32)), .unset, .unset, .unset] [])
              obtain ⟨T22, h22, X22, e22, E22, A22, D22, -, st22⟩ := newO X6 hx hZ hown (hw _ (List.mem_of_getElem? (i := 35) rfl)) (hw _ (List.mem_of_getElem? (i := 36) rfl)) (hw _ (List.mem_of_getElem? (i := 37) rfl)) rfl (g := (mkF m 135 #[.val (.int p0), .val (.int p1), .val (.int p2), .val (.int p3), .val (.int p4), .val (.int w5), .val (.int w6), .val (.int z1), .val (.int z2), .val (.int (1 : Int32)), .val (.int (1 : Int32)), .val (.ref r5), .val (.ref r6), .val (.int w13), .val (.int z7), .val (.int (3 : Int32)), .unset, .unset, .unset] [])) rfl (hb hby at_135) (by decide) (by decide)
              obtain ⟨b22, g22⟩ : ∃ z, z = T6.heap.size := ⟨_, rfl⟩
              rw [← g22] at A22 D22 st22
              have ne_r5_b22 : r5 ≠ b22 := Nat.ne_of_lt (Nat.lt_of_lt_of_eq E6_r5.lt g22.symm)
              have ne_r6_b22 : r6 ≠ b22 := Nat.ne_of_lt (Nat.lt_of_lt_of_eq E6.lt g22.symm)
              have ne_sb5_b22 : sb5 ≠ b22 := Nat.ne_of_lt (Nat.lt_of_lt_of_eq A6_sb5.lt g22.symm)
              have ne_sb6_b22 : sb6 ≠ b22 := Nat.ne_of_lt (Nat.lt_of_lt_of_eq Ab6.lt g22.symm)
              have ge_b22 : n0 ≤ b22 := Nat.le_trans Z6 (Nat.le_of_eq g22.symm)
              have K22 : Keep T6.heap h22 [] := (Keep.refl _ _).ext E22
              have E22_r5 := Exa.keep E6_r5 K22
              have E22_r6 := Exa.keep E6 K22
              have F22_r5_coder := Fld.keep F6_r5_coder K22 nin0
              have F22_r5_value := Fld.keep F6_r5_value K22 nin0
              have F22_r6_coder := Fld.keep Fc6 K22 nin0
              have F22_r6_value := Fld.keep Fv6 K22 nin0
              have A22_sb5 := Ary.keep A6_sb5 K22 nin0
              have A22_sb6 := Ary.keep Ab6 K22 nin0
              have O22 : Old Z n0 h22 := O6.keep K22 all0
              have Z22 : n0 ≤ h22.size := Nat.le_trans Z6 K22.1
              have F22_b22_name : Fld Z h22 b22 "com/example/backchain/backchain/model/Predicate" "name" "Ljava/lang/String;" .null := D22 (Or.inr (hw _ (List.mem_of_getElem? (i := 48) rfl))) (ty := (.object "java/lang/String")) (by decide)
              have F22_b22_arity : Fld Z h22 b22 "com/example/backchain/backchain/model/Predicate" "arity" "I" (.int (0 : Int32)) := D22 (Or.inr (hw _ (List.mem_of_getElem? (i := 50) rfl))) (ty := .int) (by decide)
              refine go st22 ?_
              show Run _ _ _ _ _ _ _ T22 (mkF m 138 #[.val (.int p0), .val (.int p1), .val (.int p2), .val (.int p3), .val (.int p4), .val (.int w5), .val (.int w6), .val (.int z1), .val (.int z2), .val (.int (1 : Int32)), .val (.int (1 : Int32)), .val (.ref r5), .val (.ref r6), .val (.int w13), .val (.int z7), .val (.int (3 : Int32)), .unset, .unset, .unset] [(.ref b22)])
              refine go (T' := T22) (f' := (mkF m 139 #[.val (.int p0), .val (.int p1), .val (.int p2), .val (.int p3), .val (.int p4), .val (.int w5), .val (.int w6), .val (.int z1), .val (.int z2), .val (.int (1 : Int32)), .val (.int (1 : Int32)), .val (.ref r5), .val (.ref r6), .val (.int w13), .val (.int z7), .val (.int (3 : Int32)), .unset, .unset, .unset] [(.ref b22), (.ref b22)])) (by intro t k; exact XS.dup X22.here hx rfl (hb hby at_138) rfl rfl k) ?_
              refine go (T' := T22) (f' := (mkF m 141 #[.val (.int p0), .val (.int p1), .val (.int p2), .val (.int p3), .val (.int p4), .val (.int w5), .val (.int w6), .val (.int z1), .val (.int z2), .val (.int (1 : Int32)), .val (.int (1 : Int32)), .val (.ref r5), .val (.ref r6), .val (.int w13), .val (.int z7), .val (.int (3 : Int32)), .unset, .unset, .unset] [(.ref r5), (.ref b22), (.ref b22)])) (by intro t k; exact XS.aload X22.here hx rfl (hb hby at_139) rfl rfl k) ?_
              refine go (T' := T22) (f' := (mkF m 143 #[.val (.int p0), .val (.int p1), .val (.int p2), .val (.int p3), .val (.int p4), .val (.int w5), .val (.int w6), .val (.int z1), .val (.int z2), .val (.int (1 : Int32)), .val (.int (1 : Int32)), .val (.ref r5), .val (.ref r6), .val (.int w13), .val (.int z7), .val (.int (3 : Int32)), .unset, .unset, .unset] [(.int w13), (.ref r5), (.ref b22), (.ref b22)])) (by intro t k; exact XS.iload X22.here hx rfl (hb hby at_141) rfl k) ?_
              obtain ⟨_, _, ⟨T23, Lz23, kz23, nz23⟩, -, X23, ⟨Lc23, hQ23, lz23, yz23, zz23⟩, st23⟩ := X22.specialBack hx (y := (⟨"com/example/backchain/backchain/model/Predicate", "<init>", "(Ljava/lang/String;I)V"⟩ : MethodName)) rfl hown (mvT hZ (hw _ (List.mem_of_getElem? (i := 38) rfl))) (mvT hZ (hw _ (List.mem_of_getElem? (i := 39) rfl))) (mvT hZ (hw _ (List.mem_of_getElem? (i := 40) rfl))) (by decide) (backOf (W := 1) (rm8 l Z aw hw [] b22 r5 w13 sb5 [(.int (nar .byte (((nar .char w5)).toInt8.toInt32)))] (1 : Int32) h22 n0 Z22 A22 F22_b22_name F22_b22_arity ge_b22 E22_r5 F22_r5_value A22_sb5 (Ne.symm ne_r5_b22) (Ne.symm ne_sb5_b22) rfl (by decide) ha13) hZ (hw _ (List.mem_of_getElem? (i := 40) rfl)) (hw _ (List.mem_of_getElem? (i := 37) rfl)) (by decide) (by decide)) (g := (mkF m 143 #[.val (.int p0), .val (.int p1), .val (.int p2), .val (.int p3), .val (.int p4), .val (.int w5), .val (.int w6), .val (.int z1), .val (.int z2), .val (.int (1 : Int32)), .val (.int (1 : Int32)), .val (.ref r5), .val (.ref r6), .val (.int w13), .val (.int z7), .val (.int (3 : Int32)), .unset, .unset, .unset] [(.int w13), (.ref r5), (.ref b22), (.ref b22)])) rfl (by rw [hml]; rfl) (Steps.refl _) (a := b22) (argsL := [(.ref r5), (.int w13)]) (rest := [(.ref b22)]) (lenOf pd_28Ljava2flang2fString3bI29V rfl) rfl (by show 2 * 0 + _ ≤ _; exact Nat.le_of_eq rfl) (hb hby at_143) (fun _ _ => ⟨rfl, e22, (by decide : 7 + 0 ≤ _), (by decide : 14 + 0 ≤ _)⟩)
              dsimp only [Pt.U, Pt.locs, Pt.cells, Pt.slots] at X23 lz23 yz23 zz23 st23 hQ23
              subst lz23 yz23 zz23
              obtain ⟨rfl, N23q, K23, Fn23, Fa23⟩ := hQ23
              have E23_r5 := Exa.keep E22_r5 K23
              have E23_r6 := Exa.keep E22_r6 K23
              have E23_b22 := Exa.keep A22 K23
              have F23_r5_coder := Fld.keep F22_r5_coder K23 (ninS ne_r5_b22 nin0)
              have F23_r5_value := Fld.keep F22_r5_value K23 (ninS ne_r5_b22 nin0)
              have F23_r6_coder := Fld.keep F22_r6_coder K23 (ninS ne_r6_b22 nin0)
              have F23_r6_value := Fld.keep F22_r6_value K23 (ninS ne_r6_b22 nin0)
              have A23_sb5 := Ary.keep A22_sb5 K23 (ninS ne_sb5_b22 nin0)
              have A23_sb6 := Ary.keep A22_sb6 K23 (ninS ne_sb6_b22 nin0)
              have O23 : Old Z n0 T23.heap := O22.keep K23 (allS ge_b22 all0)
              have Z23 : n0 ≤ T23.heap.size := Nat.le_trans Z22 K23.1
              have N23 := Fr.app N6 N23q
              refine go (fun _ k => st23.trans k) ?_
              show Run _ _ _ _ _ _ _ T23 (mkF m 146 #[.val (.int p0), .val (.int p1), .val (.int p2), .val (.int p3), .val (.int p4), .val (.int w5), .val (.int w6), .val (.int z1), .val (.int z2), .val (.int (1 : Int32)), .val (.int (1 : Int32)), .val (.ref r5), .val (.ref r6), .val (.int w13), .val (.int z7), .val (.int (3 : Int32)), .unset, .unset, .unset] [(.ref b22)])
              refine go (T' := T23) (f' := (mkF m 148 #[.val (.int p0), .val (.int p1), .val (.int p2), .val (.int p3), .val (.int p4), .val (.int w5), .val (.int w6), .val (.int z1), .val (.int z2), .val (.int (1 : Int32)), .val (.int (1 : Int32)), .val (.ref r5), .val (.ref r6), .val (.int w13), .val (.int z7), .val (.int (3 : Int32)), .val (.ref b22), .unset, .unset] [])) (by intro t k; exact XS.astore X23.here hx rfl (hb hby at_146) rfl rfl (l' := #[.val (.int p0), .val (.int p1), .val (.int p2), .val (.int p3), .val (.int p4), .val (.int w5), .val (.int w6), .val (.int z1), .val (.int z2), .val (.int (1 : Int32)), .val (.int (1 : Int32)), .val (.ref r5), .val (.ref r6), .val (.int w13), .val (.int z7), .val (.int (3 : Int32)), .val (.ref b22), .unset, .unset]) rfl k) ?_
              refine go (T' := T23) (f' := (mkF m 150 #[.val (.int p0), .val (.int p1), .val (.int p2), .val (.int p3), .val (.int p4), .val (.int w5), .val (.int w6), .val (.int z1), .val (.int z2), .val (.int (1 : Int32)), .val (.int (1 : Int32)), .val (.ref r5), .val (.ref r6), .val (.int w13), .val (.int z7), .val (.int (3 : Int32)), .val (.ref b22), .unset, .unset] [(.int (3 : Int32))])) (by intro t k; exact XS.iload X23.here hx rfl (hb hby at_148) rfl k) ?_
              refine go (T' := T23) (f' := (mkF m 161 #[.val (.int p0), .val (.int p1), .val (.int p2), .val (.int p3), .val (.int p4), .val (.int w5), .val (.int w6), .val (.int z1), .val (.int z2), .val (.int (1 : Int32)), .val (.int (1 : Int32)), .val (.ref r5), .val (.ref r6), .val (.int w13), .val (.int z7), .val (.int (3 : Int32)), .val (.ref b22), .unset, .unset] [])) (by intro t k; exact XS.ifYes X23.here hx rfl (pc0 := 150) (pc' := 161) rfl (hb hby at_150) rfl ((if0 _ _).trans (feq (by decide : ¬ ((3 : Int32) = (0 : Int32)))).2) (by decide) (by decide) k) ?_
              refine go (T' := T23) (f' := (mkF m 163 #[.val (.int p0), .val (.int p1), .val (.int p2), .val (.int p3), .val (.int p4), .val (.int w5), .val (.int w6), .val (.int z1), .val (.int z2), .val (.int (1 : Int32)), .val (.int (1 : Int32)), .val (.ref r5), .val (.ref r6), .val (.int w13), .val (.int z7), .val (.int (3 : Int32)), .val (.ref b22), .unset, .unset] [(.int (3 : Int32))])) (by intro t k; exact XS.iload X23.here hx rfl (hb hby at_161) rfl k) ?_
              refine go (T' := T23) (f' := (mkF m 164 #[.val (.int p0), .val (.int p1), .val (.int p2), .val (.int p3), .val (.int p4), .val (.int w5), .val (.int w6), .val (.int z1), .val (.int z2), .val (.int (1 : Int32)), .val (.int (1 : Int32)), .val (.ref r5), .val (.ref r6), .val (.int w13), .val (.int z7), .val (.int (3 : Int32)), .val (.ref b22), .unset, .unset] [(.int (2 : Int32)), (.int (3 : Int32))])) (by intro t k; exact XS.iconst X23.here hx rfl (hb hby at_163) k) ?_
              refine go (T' := T23) (f' := (mkF m 183 #[.val (.int p0), .val (.int p1), .val (.int p2), .val (.int p3), .val (.int p4), .val (.int w5), .val (.int w6), .val (.int z1), .val (.int z2), .val (.int (1 : Int32)), .val (.int (1 : Int32)), .val (.ref r5), .val (.ref r6), .val (.int w13), .val (.int z7), .val (.int (3 : Int32)), .val (.ref b22), .unset, .unset] [])) (by intro t k; exact XS.icmpYes X23.here hx rfl (pc0 := 164) (pc' := 183) rfl (hb hby at_164) rfl (feq (by decide : ¬ ((3 : Int32) = (2 : Int32)))).2 (by decide) (by decide) k) ?_
              refine go (T' := T23) (f' := (mkF m 185 #[.val (.int p0), .val (.int p1), .val (.int p2), .val (.int p3), .val (.int p4), .val (.int w5), .val (.int w6), .val (.int z1), .val (.int z2), .val (.int (1 : Int32)), .val (.int (1 : Int32)), .val (.ref r5), .val (.ref r6), .val (.int w13), .val (.int z7), .val (.int (3 : Int32)), .val (.ref b22), .unset, .unset] [(.int (3 : Int32))])) (by intro t k; exact XS.iload X23.here hx rfl (hb hby at_183) rfl k) ?_
              refine go (T' := T23) (f' := (mkF m 186 #[.val (.int p0), .val (.int p1), .val (.int p2), .val (.int p3), .val (.int p4), .val (.int w5), .val (.int w6), .val (.int z1), .val (.int z2), .val (.int (1 : Int32)), .val (.int (1 : Int32)), .val (.ref r5), .val (.ref r6), .val (.int w13), .val (.int z7), .val (.int (3 : Int32)), .val (.ref b22), .unset, .unset] [(.int (3 : Int32)), (.int (3 : Int32))])) (by intro t k; exact XS.iconst X23.here hx rfl (hb hby at_185) k) ?_
              refine go (T' := T23) (f' := (mkF m 189 #[.val (.int p0), .val (.int p1), .val (.int p2), .val (.int p3), .val (.int p4), .val (.int w5), .val (.int w6), .val (.int z1), .val (.int z2), .val (.int (1 : Int32)), .val (.int (1 : Int32)), .val (.ref r5), .val (.ref r6), .val (.int w13), .val (.int z7), .val (.int (3 : Int32)), .val (.ref b22), .unset, .unset] [])) (by intro t k; exact XS.icmpNo X23.here hx rfl (hb hby at_186) rfl (teq (rfl : (3 : Int32) = (3 : Int32))).2 k) ?_
              refine go (T' := T23) (f' := (mkF m 191 #[.val (.int p0), .val (.int p1), .val (.int p2), .val (.int p3), .val (.int p4), .val (.int w5), .val (.int w6), .val (.int z1), .val (.int z2), .val (.int (1 : Int32)), .val (.int (1 : Int32)), .val (.ref r5), .val (.ref r6), .val (.int w13), .val (.int z7), .val (.int (3 : Int32)), .val (.ref b22), .unset, .unset] [(.ref b22)])) (by intro t k; exact XS.aload X23.here hx rfl (hb hby at_189) rfl rfl k) ?_
              refine go (T' := T23) (f' := (mkF m 192 #[.val (.int p0), .val (.int p1), .val (.int p2), .val (.int p3), .val (.int p4), .val (.int w5), .val (.int w6), .val (.int z1), .val (.int z2), .val (.int (1 : Int32)), .val (.int (1 : Int32)), .val (.ref r5), .val (.ref r6), .val (.int w13), .val (.int z7), .val (.int (3 : Int32)), .val (.ref b22), .unset, .unset] [.null, (.ref b22)])) (by intro t k; exact XS.aconstNull X23.here hx rfl (hb hby at_191) k) ?_
              obtain ⟨cq24, kq24, q24a, q24b, q24c⟩ := isOf hZ rfl E23_b22
              obtain ⟨_, _, ⟨T24, Lz24, kz24, nz24⟩, -, X24, ⟨Lc24, hQ24, lz24, yz24, zz24⟩, st24⟩ := X23.virtualBack hx (y := (⟨"com/example/backchain/backchain/model/Predicate", "equals", "(Ljava/lang/Object;)Z"⟩ : MethodName)) (z := (⟨"com/example/backchain/backchain/model/Predicate", "equals", "(Ljava/lang/Object;)Z"⟩ : MethodName)) hown (mvT hZ (hw _ (List.mem_of_getElem? (i := 51) rfl))) (mvT hZ (hw _ (List.mem_of_getElem? (i := 52) rfl))) (notFace_of_selects (args := #[]) (mvT hZ (hw _ (List.mem_of_getElem? (i := 54) rfl)))) (mvT hZ (hw _ (List.mem_of_getElem? (i := 54) rfl))) (mvT hZ (hw _ (List.mem_of_getElem? (i := 53) rfl))) (by decide) (backOf (W := 0) (rm10z l Z aw hw [] b22  T23.heap n0 Z23 ) hZ (hw _ (List.mem_of_getElem? (i := 55) rfl)) (hw _ (List.mem_of_getElem? (i := 37) rfl)) (by decide) (by decide)) q24a q24c (g := (mkF m 192 #[.val (.int p0), .val (.int p1), .val (.int p2), .val (.int p3), .val (.int p4), .val (.int w5), .val (.int w6), .val (.int z1), .val (.int z2), .val (.int (1 : Int32)), .val (.int (1 : Int32)), .val (.ref r5), .val (.ref r6), .val (.int w13), .val (.int z7), .val (.int (3 : Int32)), .val (.ref b22), .unset, .unset] [.null, (.ref b22)])) rfl (by rw [hml]; rfl) (Steps.refl _) (argsL := [.null]) (rest := []) (lenOf pd_28Ljava2flang2fObject3b29Z rfl) rfl (by show 2 * 0 + _ ≤ _; exact Nat.le_of_eq rfl) (hb hby at_192) (fun _ _ => ⟨rfl, rfl, (by decide : 7 + 0 ≤ _), (by decide : 14 + 0 ≤ _)⟩)
              dsimp only [Pt.U, Pt.locs, Pt.cells, Pt.slots] at X24 lz24 yz24 zz24 st24 hQ24
              subst lz24 yz24 zz24
              obtain ⟨rfl, N24q, e24⟩ := hQ24
              have N24 := Fr.app N23 N24q
              refine go (fun _ k => st24.trans k) ?_
              show Run _ _ _ _ _ _ _ T24 (mkF m 195 #[.val (.int p0), .val (.int p1), .val (.int p2), .val (.int p3), .val (.int p4), .val (.int w5), .val (.int w6), .val (.int z1), .val (.int z2), .val (.int (1 : Int32)), .val (.int (1 : Int32)), .val (.ref r5), .val (.ref r6), .val (.int w13), .val (.int z7), .val (.int (3 : Int32)), .val (.ref b22), .unset, .unset] [(.int (0 : Int32))])
              refine go (T' := T24) (f' := (mkF m 198 #[.val (.int p0), .val (.int p1), .val (.int p2), .val (.int p3), .val (.int p4), .val (.int w5), .val (.int w6), .val (.int z1), .val (.int z2), .val (.int (1 : Int32)), .val (.int (1 : Int32)), .val (.ref r5), .val (.ref r6), .val (.int w13), .val (.int z7), .val (.int (3 : Int32)), .val (.ref b22), .unset, .unset] [])) (by intro t k; exact XS.ifNo X24.here hx rfl (hb hby at_195) rfl ((if0 _ _).trans (teq (rfl : (0 : Int32) = (0 : Int32))).2) k) ?_
              refine go (T' := T24) (f' := (mkF m 199 #[.val (.int p0), .val (.int p1), .val (.int p2), .val (.int p3), .val (.int p4), .val (.int w5), .val (.int w6), .val (.int z1), .val (.int z2), .val (.int (1 : Int32)), .val (.int (1 : Int32)), .val (.ref r5), .val (.ref r6), .val (.int w13), .val (.int z7), .val (.int (3 : Int32)), .val (.ref b22), .unset, .unset] [(.int (1 : Int32))])) (by intro t k; exact XS.iconst X24.here hx rfl (hb hby at_198) k) ?_
              refine go (T' := T24) (f' := (mkF m 203 #[.val (.int p0), .val (.int p1), .val (.int p2), .val (.int p3), .val (.int p4), .val (.int w5), .val (.int w6), .val (.int z1), .val (.int z2), .val (.int (1 : Int32)), .val (.int (1 : Int32)), .val (.ref r5), .val (.ref r6), .val (.int w13), .val (.int z7), .val (.int (3 : Int32)), .val (.ref b22), .unset, .unset] [(.int (1 : Int32))])) (by intro t k; exact XS.goto X24.here hx rfl (pc0 := 199) (pc' := 203) rfl (hb hby at_199) (by decide) (by decide) k) ?_
              refine retZ X24 hx (t := .boolean) Bd.returns (by simp) (hb hby at_203) hlk (by decide) (by decide) ?_
              show Q0 Z p0 p1 p2 p3 p4 cs h0 n0 _ T24.heap _
              rw [e24]
              have hv' : (nar .boolean (1 : Int32)) = (1 : Int32) := by
                rfl
              have hv : (some (.int (nar .boolean (1 : Int32))) : Option Value) = some (.int (1 : Int32)) := congrArg (fun z => (some (.int z) : Option Value)) hv'
              exact ⟨hv, N24⟩
          show Run _ _ _ _ _ _ _ T6 (mkF m 113 #[.val (.int p0), .val (.int p1), .val (.int p2), .val (.int p3), .val (.int p4), .val (.int w5), .val (.int w6), .val (.int z1), .val (.int z2), .val (.int (1 : Int32)), .val (.int (1 : Int32)), .val (.ref r5), .val (.ref r6), .val (.int w13), .unset, .unset, .unset, .unset, .unset] [(.int (p4 &&& (16 : Int32)))])
          by_cases hc113 : (p4 &&& (16 : Int32)) = (0 : Int32)
          · refine go (T' := T6) (f' := (mkF m 123 #[.val (.int p0), .val (.int p1), .val (.int p2), .val (.int p3), .val (.int p4), .val (.int w5), .val (.int w6), .val (.int z1), .val (.int z2), .val (.int (1 : Int32)), .val (.int (1 : Int32)), .val (.ref r5), .val (.ref r6), .val (.int w13), .unset, .unset, .unset, .unset, .unset] [])) (by intro t k; exact XS.ifYes X6.here hx rfl (pc0 := 113) (pc' := 123) rfl (hb hby at_113) rfl ((if0 _ _).trans (teq hc113).1) (by decide) (by decide) k) ?_
            refine go (T' := T6) (f' := (mkF m 125 #[.val (.int p0), .val (.int p1), .val (.int p2), .val (.int p3), .val (.int p4), .val (.int w5), .val (.int w6), .val (.int z1), .val (.int z2), .val (.int (1 : Int32)), .val (.int (1 : Int32)), .val (.ref r5), .val (.ref r6), .val (.int w13), .unset, .unset, .unset, .unset, .unset] [(.int w13)])) (by intro t k; exact XS.iload X6.here hx rfl (hb hby at_123) rfl k) ?_
            have ez7 : z7 = w13 := (hz7).trans (if_pos hc113)
            subst ez7
            exact J113
          · refine go (T' := T6) (f' := (mkF m 116 #[.val (.int p0), .val (.int p1), .val (.int p2), .val (.int p3), .val (.int p4), .val (.int w5), .val (.int w6), .val (.int z1), .val (.int z2), .val (.int (1 : Int32)), .val (.int (1 : Int32)), .val (.ref r5), .val (.ref r6), .val (.int w13), .unset, .unset, .unset, .unset, .unset] [])) (by intro t k; exact XS.ifNo X6.here hx rfl (hb hby at_113) rfl ((if0 _ _).trans (feq hc113).1) k) ?_
            refine go (T' := T6) (f' := (mkF m 117 #[.val (.int p0), .val (.int p1), .val (.int p2), .val (.int p3), .val (.int p4), .val (.int w5), .val (.int w6), .val (.int z1), .val (.int z2), .val (.int (1 : Int32)), .val (.int (1 : Int32)), .val (.ref r5), .val (.ref r6), .val (.int w13), .unset, .unset, .unset, .unset, .unset] [(.int p3)])) (by intro t k; exact XS.iloadN X6.here hx rfl (hb hby at_116) rfl k) ?_
            refine go (T' := T6) (f' := (mkF m 119 #[.val (.int p0), .val (.int p1), .val (.int p2), .val (.int p3), .val (.int p4), .val (.int w5), .val (.int w6), .val (.int z1), .val (.int z2), .val (.int (1 : Int32)), .val (.int (1 : Int32)), .val (.ref r5), .val (.ref r6), .val (.int w13), .unset, .unset, .unset, .unset, .unset] [(.int (2147483647 : Int32)), (.int p3)])) (by intro t k; exact X6.ldcInt hx hown (mvT hZ (hw _ (List.mem_of_getElem? (i := 34) rfl))) (g := (mkF m 117 #[.val (.int p0), .val (.int p1), .val (.int p2), .val (.int p3), .val (.int p4), .val (.int w5), .val (.int w6), .val (.int z1), .val (.int z2), .val (.int (1 : Int32)), .val (.int (1 : Int32)), .val (.ref r5), .val (.ref r6), .val (.int w13), .unset, .unset, .unset, .unset, .unset] [(.int p3)])) rfl (hb hby at_117) _ k) ?_
            refine go (T' := T6) (f' := (mkF m 120 #[.val (.int p0), .val (.int p1), .val (.int p2), .val (.int p3), .val (.int p4), .val (.int w5), .val (.int w6), .val (.int z1), .val (.int z2), .val (.int (1 : Int32)), .val (.int (1 : Int32)), .val (.ref r5), .val (.ref r6), .val (.int w13), .unset, .unset, .unset, .unset, .unset] [(.int (p3 &&& (2147483647 : Int32)))])) (by intro t k; exact XS.iand X6.here hx rfl (hb hby at_119) rfl k) ?_
            refine go (T' := T6) (f' := (mkF m 125 #[.val (.int p0), .val (.int p1), .val (.int p2), .val (.int p3), .val (.int p4), .val (.int w5), .val (.int w6), .val (.int z1), .val (.int z2), .val (.int (1 : Int32)), .val (.int (1 : Int32)), .val (.ref r5), .val (.ref r6), .val (.int w13), .unset, .unset, .unset, .unset, .unset] [(.int (p3 &&& (2147483647 : Int32)))])) (by intro t k; exact XS.goto X6.here hx rfl (pc0 := 120) (pc' := 125) rfl (hb hby at_120) (by decide) (by decide) k) ?_
            have ez7 : z7 = (p3 &&& (2147483647 : Int32)) := (hz7).trans (if_neg hc113)
            subst ez7
            exact J113
        · subst ez
          show Run _ _ _ _ _ _ _ s₁ (mkF m 82 #[.val (.int p0), .val (.int p1), .val (.int p2), .val (.int p3), .val (.int p4), .val (.int w5), .val (.int w6), .val (.int z1), .val (.int z2), .val (.int (1 : Int32)), .val (.int (2 : Int32)), .unset, .unset, .unset, .unset, .unset, .unset, .unset, .unset] [(.int (1 : Int32))])
          refine go (T' := s₁) (f' := (mkF m 84 #[.val (.int p0), .val (.int p1), .val (.int p2), .val (.int p3), .val (.int p4), .val (.int w5), .val (.int w6), .val (.int z1), .val (.int z2), .val (.int (1 : Int32)), .val (.int (2 : Int32)), .unset, .unset, .unset, .unset, .unset, .unset, .unset, .unset] [(.int w5), (.int (1 : Int32))])) (by intro t k; exact XS.iload X0.here hx rfl (hb hby at_82) rfl k) ?_
          refine go (T' := s₁) (f' := (mkF m 86 #[.val (.int p0), .val (.int p1), .val (.int p2), .val (.int p3), .val (.int p4), .val (.int w5), .val (.int w6), .val (.int z1), .val (.int z2), .val (.int (1 : Int32)), .val (.int (2 : Int32)), .unset, .unset, .unset, .unset, .unset, .unset, .unset, .unset] [(.int w6), (.int w5), (.int (1 : Int32))])) (by intro t k; exact XS.iload X0.here hx rfl (hb hby at_84) rfl k) ?_
          obtain ⟨_, _, ⟨T25, Lz25, kz25, nz25⟩, -, X25, ⟨Lc25, hQ25, lz25, yz25, zz25⟩, st25⟩ := Jvm.LawKit.callS X0 hx (y := (⟨"com/example/backchain/backchain/model/PredicateEqualsPinLaw", "makeName", "(ICC)Ljava/lang/String;"⟩ : MethodName)) hown (mvT hZ (hw _ (List.mem_of_getElem? (i := 0) rfl))) (mvT hZ (hw _ (List.mem_of_getElem? (i := 1) rfl))) (mvT hZ (hw _ (List.mem_of_getElem? (i := 2) rfl))) (mvT hZ (hw _ (List.mem_of_getElem? (i := 3) rfl))) (by decide) (backOf (W := 0) (rm1n1 l Z aw hw [] w5 w6 cs h0 n0 Z0 O0 S_cs hcs (own_nc hc5)) hZ (hw _ (List.mem_of_getElem? (i := 3) rfl)) (hw _ (List.mem_of_getElem? (i := 2) rfl)) (by decide) (by decide)) (g := (mkF m 86 #[.val (.int p0), .val (.int p1), .val (.int p2), .val (.int p3), .val (.int p4), .val (.int w5), .val (.int w6), .val (.int z1), .val (.int z2), .val (.int (1 : Int32)), .val (.int (2 : Int32)), .unset, .unset, .unset, .unset, .unset, .unset, .unset, .unset] [(.int w6), (.int w5), (.int (1 : Int32))])) rfl (by rw [hml]; rfl) (argsL := [(.int (1 : Int32)), (.int w5), (.int w6)]) (rest := []) (lenOf pd_28ICC29Ljava2flang2fString3b rfl) rfl (by show 2 * 0 + _ ≤ _; exact Nat.le_of_eq rfl) (hb hby at_86) (fun _ _ => ⟨rfl, e0, (by decide : 0 + 3 ≤ _), (by decide : 0 + 6 ≤ _)⟩)
          dsimp only [Pt.U, Pt.locs, Pt.cells, Pt.slots] at X25 lz25 yz25 zz25 st25 hQ25
          subst lz25 yz25 zz25
          obtain ⟨r25, rfl, sz25, N25q, K25, sb25, zb25, nrb25, E25, Fc25, Fv25, Ab25⟩ := hQ25
          have ge_r25 : n0 ≤ r25 := Nat.le_trans Z0 sz25
          have ge_sb25 : n0 ≤ sb25 := Nat.le_trans Z0 zb25
          have O25 : Old Z n0 T25.heap := O0.keep K25 all0
          have Z25 : n0 ≤ T25.heap.size := Nat.le_trans Z0 K25.1
          have N25 := Fr.app N0 N25q
          refine go st25 ?_
          show Run _ _ _ _ _ _ _ T25 (mkF m 89 #[.val (.int p0), .val (.int p1), .val (.int p2), .val (.int p3), .val (.int p4), .val (.int w5), .val (.int w6), .val (.int z1), .val (.int z2), .val (.int (1 : Int32)), .val (.int (2 : Int32)), .unset, .unset, .unset, .unset, .unset, .unset, .unset, .unset] [(.ref r25)])
          refine go (T' := T25) (f' := (mkF m 91 #[.val (.int p0), .val (.int p1), .val (.int p2), .val (.int p3), .val (.int p4), .val (.int w5), .val (.int w6), .val (.int z1), .val (.int z2), .val (.int (1 : Int32)), .val (.int (2 : Int32)), .val (.ref r25), .unset, .unset, .unset, .unset, .unset, .unset, .unset] [])) (by intro t k; exact XS.astore X25.here hx rfl (hb hby at_89) rfl rfl (l' := #[.val (.int p0), .val (.int p1), .val (.int p2), .val (.int p3), .val (.int p4), .val (.int w5), .val (.int w6), .val (.int z1), .val (.int z2), .val (.int (1 : Int32)), .val (.int (2 : Int32)), .val (.ref r25), .unset, .unset, .unset, .unset, .unset, .unset, .unset]) rfl k) ?_
          refine go (T' := T25) (f' := (mkF m 93 #[.val (.int p0), .val (.int p1), .val (.int p2), .val (.int p3), .val (.int p4), .val (.int w5), .val (.int w6), .val (.int z1), .val (.int z2), .val (.int (1 : Int32)), .val (.int (2 : Int32)), .val (.ref r25), .unset, .unset, .unset, .unset, .unset, .unset, .unset] [(.int (2 : Int32))])) (by intro t k; exact XS.iload X25.here hx rfl (hb hby at_91) rfl k) ?_
          refine go (T' := T25) (f' := (mkF m 95 #[.val (.int p0), .val (.int p1), .val (.int p2), .val (.int p3), .val (.int p4), .val (.int w5), .val (.int w6), .val (.int z1), .val (.int z2), .val (.int (1 : Int32)), .val (.int (2 : Int32)), .val (.ref r25), .unset, .unset, .unset, .unset, .unset, .unset, .unset] [(.int z1), (.int (2 : Int32))])) (by intro t k; exact XS.iload X25.here hx rfl (hb hby at_93) rfl k) ?_
          refine go (T' := T25) (f' := (mkF m 97 #[.val (.int p0), .val (.int p1), .val (.int p2), .val (.int p3), .val (.int p4), .val (.int w5), .val (.int w6), .val (.int z1), .val (.int z2), .val (.int (1 : Int32)), .val (.int (2 : Int32)), .val (.ref r25), .unset, .unset, .unset, .unset, .unset, .unset, .unset] [(.int z2), (.int z1), (.int (2 : Int32))])) (by intro t k; exact XS.iload X25.here hx rfl (hb hby at_95) rfl k) ?_
          obtain ⟨_, _, ⟨T26, Lz26, kz26, nz26⟩, -, X26, ⟨Lc26, hQ26, lz26, yz26, zz26⟩, st26⟩ := Jvm.LawKit.callS X25 hx (y := (⟨"com/example/backchain/backchain/model/PredicateEqualsPinLaw", "makeName", "(ICC)Ljava/lang/String;"⟩ : MethodName)) hown (mvT hZ (hw _ (List.mem_of_getElem? (i := 0) rfl))) (mvT hZ (hw _ (List.mem_of_getElem? (i := 1) rfl))) (mvT hZ (hw _ (List.mem_of_getElem? (i := 2) rfl))) (mvT hZ (hw _ (List.mem_of_getElem? (i := 3) rfl))) (by decide) (backOf (W := 0) (rm1n2 l Z aw hw [] z1 z2 cs T25.heap n0 Z25 O25 S_cs hcs (own_nc hc7) (own_nc hc8)) hZ (hw _ (List.mem_of_getElem? (i := 3) rfl)) (hw _ (List.mem_of_getElem? (i := 2) rfl)) (by decide) (by decide)) (g := (mkF m 97 #[.val (.int p0), .val (.int p1), .val (.int p2), .val (.int p3), .val (.int p4), .val (.int w5), .val (.int w6), .val (.int z1), .val (.int z2), .val (.int (1 : Int32)), .val (.int (2 : Int32)), .val (.ref r25), .unset, .unset, .unset, .unset, .unset, .unset, .unset] [(.int z2), (.int z1), (.int (2 : Int32))])) rfl (by rw [hml]; rfl) (argsL := [(.int (2 : Int32)), (.int z1), (.int z2)]) (rest := []) (lenOf pd_28ICC29Ljava2flang2fString3b rfl) rfl (by show 2 * 0 + _ ≤ _; exact Nat.le_of_eq rfl) (hb hby at_97) (fun _ _ => ⟨rfl, rfl, (by decide : 3 + 3 ≤ _), (by decide : 6 + 8 ≤ _)⟩)
          dsimp only [Pt.U, Pt.locs, Pt.cells, Pt.slots] at X26 lz26 yz26 zz26 st26 hQ26
          subst lz26 yz26 zz26
          obtain ⟨r26, rfl, sz26, N26q, K26, sb26, zb26, nrb26, E26, Fc26, Fv26, Ab26⟩ := hQ26
          have ne_r25_r26 : r25 ≠ r26 := Nat.ne_of_lt (Nat.lt_of_lt_of_le E25.lt sz26)
          have ne_sb25_r26 : sb25 ≠ r26 := Nat.ne_of_lt (Nat.lt_of_lt_of_le Ab25.lt sz26)
          have ge_r26 : n0 ≤ r26 := Nat.le_trans Z25 sz26
          have ne_r25_sb26 : r25 ≠ sb26 := Nat.ne_of_lt (Nat.lt_of_lt_of_le E25.lt zb26)
          have ne_sb25_sb26 : sb25 ≠ sb26 := Nat.ne_of_lt (Nat.lt_of_lt_of_le Ab25.lt zb26)
          have ge_sb26 : n0 ≤ sb26 := Nat.le_trans Z25 zb26
          have E26_r25 := Exa.keep E25 K26
          have F26_r25_coder := Fld.keep Fc25 K26 nin0
          have F26_r25_value := Fld.keep Fv25 K26 nin0
          have A26_sb25 := Ary.keep Ab25 K26 nin0
          have O26 : Old Z n0 T26.heap := O25.keep K26 all0
          have Z26 : n0 ≤ T26.heap.size := Nat.le_trans Z25 K26.1
          have N26 := Fr.app N25 N26q
          refine go st26 ?_
          show Run _ _ _ _ _ _ _ T26 (mkF m 100 #[.val (.int p0), .val (.int p1), .val (.int p2), .val (.int p3), .val (.int p4), .val (.int w5), .val (.int w6), .val (.int z1), .val (.int z2), .val (.int (1 : Int32)), .val (.int (2 : Int32)), .val (.ref r25), .unset, .unset, .unset, .unset, .unset, .unset, .unset] [(.ref r26)])
          refine go (T' := T26) (f' := (mkF m 102 #[.val (.int p0), .val (.int p1), .val (.int p2), .val (.int p3), .val (.int p4), .val (.int w5), .val (.int w6), .val (.int z1), .val (.int z2), .val (.int (1 : Int32)), .val (.int (2 : Int32)), .val (.ref r25), .val (.ref r26), .unset, .unset, .unset, .unset, .unset, .unset] [])) (by intro t k; exact XS.astore X26.here hx rfl (hb hby at_100) rfl rfl (l' := #[.val (.int p0), .val (.int p1), .val (.int p2), .val (.int p3), .val (.int p4), .val (.int w5), .val (.int w6), .val (.int z1), .val (.int z2), .val (.int (1 : Int32)), .val (.int (2 : Int32)), .val (.ref r25), .val (.ref r26), .unset, .unset, .unset, .unset, .unset, .unset]) rfl k) ?_
          refine go (T' := T26) (f' := (mkF m 103 #[.val (.int p0), .val (.int p1), .val (.int p2), .val (.int p3), .val (.int p4), .val (.int w5), .val (.int w6), .val (.int z1), .val (.int z2), .val (.int (1 : Int32)), .val (.int (2 : Int32)), .val (.ref r25), .val (.ref r26), .unset, .unset, .unset, .unset, .unset, .unset] [(.int p2)])) (by intro t k; exact XS.iloadN X26.here hx rfl (hb hby at_102) rfl k) ?_
          refine go (T' := T26) (f' := (mkF m 105 #[.val (.int p0), .val (.int p1), .val (.int p2), .val (.int p3), .val (.int p4), .val (.int w5), .val (.int w6), .val (.int z1), .val (.int z2), .val (.int (1 : Int32)), .val (.int (2 : Int32)), .val (.ref r25), .val (.ref r26), .unset, .unset, .unset, .unset, .unset, .unset] [(.int (2147483647 : Int32)), (.int p2)])) (by intro t k; exact X26.ldcInt hx hown (mvT hZ (hw _ (List.mem_of_getElem? (i := 34) rfl))) (g := (mkF m 103 #[.val (.int p0), .val (.int p1), .val (.int p2), .val (.int p3), .val (.int p4), .val (.int w5), .val (.int w6), .val (.int z1), .val (.int z2), .val (.int (1 : Int32)), .val (.int (2 : Int32)), .val (.ref r25), .val (.ref r26), .unset, .unset, .unset, .unset, .unset, .unset] [(.int p2)])) rfl (hb hby at_103) _ k) ?_
          refine go (T' := T26) (f' := (mkF m 106 #[.val (.int p0), .val (.int p1), .val (.int p2), .val (.int p3), .val (.int p4), .val (.int w5), .val (.int w6), .val (.int z1), .val (.int z2), .val (.int (1 : Int32)), .val (.int (2 : Int32)), .val (.ref r25), .val (.ref r26), .unset, .unset, .unset, .unset, .unset, .unset] [(.int (p2 &&& (2147483647 : Int32)))])) (by intro t k; exact XS.iand X26.here hx rfl (hb hby at_105) rfl k) ?_
          refine go (T' := T26) (f' := (mkF m 108 #[.val (.int p0), .val (.int p1), .val (.int p2), .val (.int p3), .val (.int p4), .val (.int w5), .val (.int w6), .val (.int z1), .val (.int z2), .val (.int (1 : Int32)), .val (.int (2 : Int32)), .val (.ref r25), .val (.ref r26), .val (.int (p2 &&& (2147483647 : Int32))), .unset, .unset, .unset, .unset, .unset] [])) (by intro t k; exact XS.istore X26.here hx rfl (hb hby at_106) rfl (l' := #[.val (.int p0), .val (.int p1), .val (.int p2), .val (.int p3), .val (.int p4), .val (.int w5), .val (.int w6), .val (.int z1), .val (.int z2), .val (.int (1 : Int32)), .val (.int (2 : Int32)), .val (.ref r25), .val (.ref r26), .val (.int (p2 &&& (2147483647 : Int32))), .unset, .unset, .unset, .unset, .unset]) rfl k) ?_
          obtain ⟨w13, hw13⟩ : ∃ z : Int32, z = (p2 &&& (2147483647 : Int32)) := ⟨_, rfl⟩
          rw [← hw13]
          show Run _ _ _ _ _ _ _ T26 (mkF m 108 #[.val (.int p0), .val (.int p1), .val (.int p2), .val (.int p3), .val (.int p4), .val (.int w5), .val (.int w6), .val (.int z1), .val (.int z2), .val (.int (1 : Int32)), .val (.int (2 : Int32)), .val (.ref r25), .val (.ref r26), .val (.int w13), .unset, .unset, .unset, .unset, .unset] [])
          refine go (T' := T26) (f' := (mkF m 110 #[.val (.int p0), .val (.int p1), .val (.int p2), .val (.int p3), .val (.int p4), .val (.int w5), .val (.int w6), .val (.int z1), .val (.int z2), .val (.int (1 : Int32)), .val (.int (2 : Int32)), .val (.ref r25), .val (.ref r26), .val (.int w13), .unset, .unset, .unset, .unset, .unset] [(.int p4)])) (by intro t k; exact XS.iload X26.here hx rfl (hb hby at_108) rfl k) ?_
          refine go (T' := T26) (f' := (mkF m 112 #[.val (.int p0), .val (.int p1), .val (.int p2), .val (.int p3), .val (.int p4), .val (.int w5), .val (.int w6), .val (.int z1), .val (.int z2), .val (.int (1 : Int32)), .val (.int (2 : Int32)), .val (.ref r25), .val (.ref r26), .val (.int w13), .unset, .unset, .unset, .unset, .unset] [(.int (16 : Int32)), (.int p4)])) (by intro t k; exact XS.bipush X26.here hx rfl (hb hby at_110) k) ?_
          refine go (T' := T26) (f' := (mkF m 113 #[.val (.int p0), .val (.int p1), .val (.int p2), .val (.int p3), .val (.int p4), .val (.int w5), .val (.int w6), .val (.int z1), .val (.int z2), .val (.int (1 : Int32)), .val (.int (2 : Int32)), .val (.ref r25), .val (.ref r26), .val (.int w13), .unset, .unset, .unset, .unset, .unset] [(.int (p4 &&& (16 : Int32)))])) (by intro t k; exact XS.iand X26.here hx rfl (hb hby at_112) rfl k) ?_
          obtain ⟨z27, hz27⟩ : ∃ z : Int32, z = (if (p4 &&& (16 : Int32)) = (0 : Int32) then w13 else (p3 &&& (2147483647 : Int32))) := ⟨_, rfl⟩
          have J113 : Run p e s below (Q0 Z p0 p1 p2 p3 p4 cs h0 n0) room_1.cells room_1.slots T26 (mkF m 125 #[.val (.int p0), .val (.int p1), .val (.int p2), .val (.int p3), .val (.int p4), .val (.int w5), .val (.int w6), .val (.int z1), .val (.int z2), .val (.int (1 : Int32)), .val (.int (2 : Int32)), .val (.ref r25), .val (.ref r26), .val (.int w13), .unset, .unset, .unset, .unset, .unset] [(.int z27)]) := by
            show Run _ _ _ _ _ _ _ T26 (mkF m 125 #[.val (.int p0), .val (.int p1), .val (.int p2), .val (.int p3), .val (.int p4), .val (.int w5), .val (.int w6), .val (.int z1), .val (.int z2), .val (.int (1 : Int32)), .val (.int (2 : Int32)), .val (.ref r25), .val (.ref r26), .val (.int w13), .unset, .unset, .unset, .unset, .unset] [(.int z27)])
            refine go (T' := T26) (f' := (mkF m 127 #[.val (.int p0), .val (.int p1), .val (.int p2), .val (.int p3), .val (.int p4), .val (.int w5), .val (.int w6), .val (.int z1), .val (.int z2), .val (.int (1 : Int32)), .val (.int (2 : Int32)), .val (.ref r25), .val (.ref r26), .val (.int w13), .val (.int z27), .unset, .unset, .unset, .unset] [])) (by intro t k; exact XS.istore X26.here hx rfl (hb hby at_125) rfl (l' := #[.val (.int p0), .val (.int p1), .val (.int p2), .val (.int p3), .val (.int p4), .val (.int w5), .val (.int w6), .val (.int z1), .val (.int z2), .val (.int (1 : Int32)), .val (.int (2 : Int32)), .val (.ref r25), .val (.ref r26), .val (.int w13), .val (.int z27), .unset, .unset, .unset, .unset]) rfl k) ?_
            refine go (T' := T26) (f' := (mkF m 129 #[.val (.int p0), .val (.int p1), .val (.int p2), .val (.int p3), .val (.int p4), .val (.int w5), .val (.int w6), .val (.int z1), .val (.int z2), .val (.int (1 : Int32)), .val (.int (2 : Int32)), .val (.ref r25), .val (.ref r26), .val (.int w13), .val (.int z27), .unset, .unset, .unset, .unset] [(.int p4)])) (by intro t k; exact XS.iload X26.here hx rfl (hb hby at_127) rfl k) ?_
            refine go (T' := T26) (f' := (mkF m 130 #[.val (.int p0), .val (.int p1), .val (.int p2), .val (.int p3), .val (.int p4), .val (.int w5), .val (.int w6), .val (.int z1), .val (.int z2), .val (.int (1 : Int32)), .val (.int (2 : Int32)), .val (.ref r25), .val (.ref r26), .val (.int w13), .val (.int z27), .unset, .unset, .unset, .unset] [(.int (5 : Int32)), (.int p4)])) (by intro t k; exact XS.iconst X26.here hx rfl (hb hby at_129) k) ?_
            refine go (T' := T26) (f' := (mkF m 131 #[.val (.int p0), .val (.int p1), .val (.int p2), .val (.int p3), .val (.int p4), .val (.int w5), .val (.int w6), .val (.int z1), .val (.int z2), .val (.int (1 : Int32)), .val (.int (2 : Int32)), .val (.ref r25), .val (.ref r26), .val (.int w13), .val (.int z27), .unset, .unset, .unset, .unset] [(.int (((p4).toUInt32 >>> ((5 : Int32) &&& 31).toUInt32).toInt32))])) (by intro t k; exact XS.iushr X26.here hx rfl (hb hby at_130) rfl k) ?_
            refine go (T' := T26) (f' := (mkF m 132 #[.val (.int p0), .val (.int p1), .val (.int p2), .val (.int p3), .val (.int p4), .val (.int w5), .val (.int w6), .val (.int z1), .val (.int z2), .val (.int (1 : Int32)), .val (.int (2 : Int32)), .val (.ref r25), .val (.ref r26), .val (.int w13), .val (.int z27), .unset, .unset, .unset, .unset] [(.int (3 : Int32)), (.int (((p4).toUInt32 >>> ((5 : Int32) &&& 31).toUInt32).toInt32))])) (by intro t k; exact XS.iconst X26.here hx rfl (hb hby at_131) k) ?_
            refine go (T' := T26) (f' := (mkF m 133 #[.val (.int p0), .val (.int p1), .val (.int p2), .val (.int p3), .val (.int p4), .val (.int w5), .val (.int w6), .val (.int z1), .val (.int z2), .val (.int (1 : Int32)), .val (.int (2 : Int32)), .val (.ref r25), .val (.ref r26), .val (.int w13), .val (.int z27), .unset, .unset, .unset, .unset] [(.int ((((p4).toUInt32 >>> ((5 : Int32) &&& 31).toUInt32).toInt32) &&& (3 : Int32)))])) (by intro t k; exact XS.iand X26.here hx rfl (hb hby at_132) rfl k) ?_
            refine go (T' := T26) (f' := (mkF m 135 #[.val (.int p0), .val (.int p1), .val (.int p2), .val (.int p3), .val (.int p4), .val (.int w5), .val (.int w6), .val (.int z1), .val (.int z2), .val (.int (1 : Int32)), .val (.int (2 : Int32)), .val (.ref r25), .val (.ref r26), .val (.int w13), .val (.int z27), .val (.int ((((p4).toUInt32 >>> ((5 : Int32) &&& 31).toUInt32).toInt32) &&& (3 : Int32))), .unset, .unset, .unset] [])) (by intro t k; exact XS.istore X26.here hx rfl (hb hby at_133) rfl (l' := #[.val (.int p0), .val (.int p1), .val (.int p2), .val (.int p3), .val (.int p4), .val (.int w5), .val (.int w6), .val (.int z1), .val (.int z2), .val (.int (1 : Int32)), .val (.int (2 : Int32)), .val (.ref r25), .val (.ref r26), .val (.int w13), .val (.int z27), .val (.int ((((p4).toUInt32 >>> ((5 : Int32) &&& 31).toUInt32).toInt32) &&& (3 : Int32))), .unset, .unset, .unset]) rfl k) ?_
            have ha13 := own_nn hw13
            have ha14 := own_ni hz27 ha13
            obtain ⟨z28, hz28⟩ : ∃ z : Int32, z = ((((p4).toUInt32 >>> ((5 : Int32) &&& 31).toUInt32).toInt32) &&& (3 : Int32)) := ⟨_, rfl⟩
            rw [← hz28]
            rcases (own_kind hz28 : z28 = (0 : Int32) ∨ z28 = (1 : Int32) ∨ z28 = (2 : Int32) ∨ z28 = (3 : Int32)) with ez | ez | ez | ez
            · subst ez
              show Run _ _ _ _ _ _ _ T26 (mkF m 135 #[.val (.int p0), .val (.int p1), .val (.int p2), .val (.int p3), .val (.int p4), .val (.int w5), .val (.int w6), .val (.int z1), .val (.int z2), .val (.int (1 : Int32)), .val (.int (2 : Int32)), .val (.ref r25), .val (.ref r26), .val (.int w13), .val (.int z27), .val (.int (0 : Int32)), .unset, .unset, .unset] [])
              obtain ⟨T29, h29, X29, e29, E29, A29, D29, -, st29⟩ := newO X26 hx hZ hown (hw _ (List.mem_of_getElem? (i := 35) rfl)) (hw _ (List.mem_of_getElem? (i := 36) rfl)) (hw _ (List.mem_of_getElem? (i := 37) rfl)) rfl (g := (mkF m 135 #[.val (.int p0), .val (.int p1), .val (.int p2), .val (.int p3), .val (.int p4), .val (.int w5), .val (.int w6), .val (.int z1), .val (.int z2), .val (.int (1 : Int32)), .val (.int (2 : Int32)), .val (.ref r25), .val (.ref r26), .val (.int w13), .val (.int z27), .val (.int (0 : Int32)), .unset, .unset, .unset] [])) rfl (hb hby at_135) (by decide) (by decide)
              obtain ⟨b29, g29⟩ : ∃ z, z = T26.heap.size := ⟨_, rfl⟩
              rw [← g29] at A29 D29 st29
              have ne_r25_b29 : r25 ≠ b29 := Nat.ne_of_lt (Nat.lt_of_lt_of_eq E26_r25.lt g29.symm)
              have ne_r26_b29 : r26 ≠ b29 := Nat.ne_of_lt (Nat.lt_of_lt_of_eq E26.lt g29.symm)
              have ne_sb25_b29 : sb25 ≠ b29 := Nat.ne_of_lt (Nat.lt_of_lt_of_eq A26_sb25.lt g29.symm)
              have ne_sb26_b29 : sb26 ≠ b29 := Nat.ne_of_lt (Nat.lt_of_lt_of_eq Ab26.lt g29.symm)
              have ge_b29 : n0 ≤ b29 := Nat.le_trans Z26 (Nat.le_of_eq g29.symm)
              have K29 : Keep T26.heap h29 [] := (Keep.refl _ _).ext E29
              have E29_r25 := Exa.keep E26_r25 K29
              have E29_r26 := Exa.keep E26 K29
              have F29_r25_coder := Fld.keep F26_r25_coder K29 nin0
              have F29_r25_value := Fld.keep F26_r25_value K29 nin0
              have F29_r26_coder := Fld.keep Fc26 K29 nin0
              have F29_r26_value := Fld.keep Fv26 K29 nin0
              have A29_sb25 := Ary.keep A26_sb25 K29 nin0
              have A29_sb26 := Ary.keep Ab26 K29 nin0
              have O29 : Old Z n0 h29 := O26.keep K29 all0
              have Z29 : n0 ≤ h29.size := Nat.le_trans Z26 K29.1
              have F29_b29_name : Fld Z h29 b29 "com/example/backchain/backchain/model/Predicate" "name" "Ljava/lang/String;" .null := D29 (Or.inr (hw _ (List.mem_of_getElem? (i := 48) rfl))) (ty := (.object "java/lang/String")) (by decide)
              have F29_b29_arity : Fld Z h29 b29 "com/example/backchain/backchain/model/Predicate" "arity" "I" (.int (0 : Int32)) := D29 (Or.inr (hw _ (List.mem_of_getElem? (i := 50) rfl))) (ty := .int) (by decide)
              refine go st29 ?_
              show Run _ _ _ _ _ _ _ T29 (mkF m 138 #[.val (.int p0), .val (.int p1), .val (.int p2), .val (.int p3), .val (.int p4), .val (.int w5), .val (.int w6), .val (.int z1), .val (.int z2), .val (.int (1 : Int32)), .val (.int (2 : Int32)), .val (.ref r25), .val (.ref r26), .val (.int w13), .val (.int z27), .val (.int (0 : Int32)), .unset, .unset, .unset] [(.ref b29)])
              refine go (T' := T29) (f' := (mkF m 139 #[.val (.int p0), .val (.int p1), .val (.int p2), .val (.int p3), .val (.int p4), .val (.int w5), .val (.int w6), .val (.int z1), .val (.int z2), .val (.int (1 : Int32)), .val (.int (2 : Int32)), .val (.ref r25), .val (.ref r26), .val (.int w13), .val (.int z27), .val (.int (0 : Int32)), .unset, .unset, .unset] [(.ref b29), (.ref b29)])) (by intro t k; exact XS.dup X29.here hx rfl (hb hby at_138) rfl rfl k) ?_
              refine go (T' := T29) (f' := (mkF m 141 #[.val (.int p0), .val (.int p1), .val (.int p2), .val (.int p3), .val (.int p4), .val (.int w5), .val (.int w6), .val (.int z1), .val (.int z2), .val (.int (1 : Int32)), .val (.int (2 : Int32)), .val (.ref r25), .val (.ref r26), .val (.int w13), .val (.int z27), .val (.int (0 : Int32)), .unset, .unset, .unset] [(.ref r25), (.ref b29), (.ref b29)])) (by intro t k; exact XS.aload X29.here hx rfl (hb hby at_139) rfl rfl k) ?_
              refine go (T' := T29) (f' := (mkF m 143 #[.val (.int p0), .val (.int p1), .val (.int p2), .val (.int p3), .val (.int p4), .val (.int w5), .val (.int w6), .val (.int z1), .val (.int z2), .val (.int (1 : Int32)), .val (.int (2 : Int32)), .val (.ref r25), .val (.ref r26), .val (.int w13), .val (.int z27), .val (.int (0 : Int32)), .unset, .unset, .unset] [(.int w13), (.ref r25), (.ref b29), (.ref b29)])) (by intro t k; exact XS.iload X29.here hx rfl (hb hby at_141) rfl k) ?_
              obtain ⟨_, _, ⟨T30, Lz30, kz30, nz30⟩, -, X30, ⟨Lc30, hQ30, lz30, yz30, zz30⟩, st30⟩ := X29.specialBack hx (y := (⟨"com/example/backchain/backchain/model/Predicate", "<init>", "(Ljava/lang/String;I)V"⟩ : MethodName)) rfl hown (mvT hZ (hw _ (List.mem_of_getElem? (i := 38) rfl))) (mvT hZ (hw _ (List.mem_of_getElem? (i := 39) rfl))) (mvT hZ (hw _ (List.mem_of_getElem? (i := 40) rfl))) (by decide) (backOf (W := 1) (rm8 l Z aw hw [] b29 r25 w13 sb25 [(.int (nar .byte (((nar .char w5)).toInt8.toInt32)))] (1 : Int32) h29 n0 Z29 A29 F29_b29_name F29_b29_arity ge_b29 E29_r25 F29_r25_value A29_sb25 (Ne.symm ne_r25_b29) (Ne.symm ne_sb25_b29) rfl (by decide) ha13) hZ (hw _ (List.mem_of_getElem? (i := 40) rfl)) (hw _ (List.mem_of_getElem? (i := 37) rfl)) (by decide) (by decide)) (g := (mkF m 143 #[.val (.int p0), .val (.int p1), .val (.int p2), .val (.int p3), .val (.int p4), .val (.int w5), .val (.int w6), .val (.int z1), .val (.int z2), .val (.int (1 : Int32)), .val (.int (2 : Int32)), .val (.ref r25), .val (.ref r26), .val (.int w13), .val (.int z27), .val (.int (0 : Int32)), .unset, .unset, .unset] [(.int w13), (.ref r25), (.ref b29), (.ref b29)])) rfl (by rw [hml]; rfl) (Steps.refl _) (a := b29) (argsL := [(.ref r25), (.int w13)]) (rest := [(.ref b29)]) (lenOf pd_28Ljava2flang2fString3bI29V rfl) rfl (by show 2 * 0 + _ ≤ _; exact Nat.le_of_eq rfl) (hb hby at_143) (fun _ _ => ⟨rfl, e29, (by decide : 7 + 0 ≤ _), (by decide : 16 + 0 ≤ _)⟩)
              dsimp only [Pt.U, Pt.locs, Pt.cells, Pt.slots] at X30 lz30 yz30 zz30 st30 hQ30
              subst lz30 yz30 zz30
              obtain ⟨rfl, N30q, K30, Fn30, Fa30⟩ := hQ30
              have E30_r25 := Exa.keep E29_r25 K30
              have E30_r26 := Exa.keep E29_r26 K30
              have E30_b29 := Exa.keep A29 K30
              have F30_r25_coder := Fld.keep F29_r25_coder K30 (ninS ne_r25_b29 nin0)
              have F30_r25_value := Fld.keep F29_r25_value K30 (ninS ne_r25_b29 nin0)
              have F30_r26_coder := Fld.keep F29_r26_coder K30 (ninS ne_r26_b29 nin0)
              have F30_r26_value := Fld.keep F29_r26_value K30 (ninS ne_r26_b29 nin0)
              have A30_sb25 := Ary.keep A29_sb25 K30 (ninS ne_sb25_b29 nin0)
              have A30_sb26 := Ary.keep A29_sb26 K30 (ninS ne_sb26_b29 nin0)
              have O30 : Old Z n0 T30.heap := O29.keep K30 (allS ge_b29 all0)
              have Z30 : n0 ≤ T30.heap.size := Nat.le_trans Z29 K30.1
              have N30 := Fr.app N26 N30q
              refine go (fun _ k => st30.trans k) ?_
              show Run _ _ _ _ _ _ _ T30 (mkF m 146 #[.val (.int p0), .val (.int p1), .val (.int p2), .val (.int p3), .val (.int p4), .val (.int w5), .val (.int w6), .val (.int z1), .val (.int z2), .val (.int (1 : Int32)), .val (.int (2 : Int32)), .val (.ref r25), .val (.ref r26), .val (.int w13), .val (.int z27), .val (.int (0 : Int32)), .unset, .unset, .unset] [(.ref b29)])
              refine go (T' := T30) (f' := (mkF m 148 #[.val (.int p0), .val (.int p1), .val (.int p2), .val (.int p3), .val (.int p4), .val (.int w5), .val (.int w6), .val (.int z1), .val (.int z2), .val (.int (1 : Int32)), .val (.int (2 : Int32)), .val (.ref r25), .val (.ref r26), .val (.int w13), .val (.int z27), .val (.int (0 : Int32)), .val (.ref b29), .unset, .unset] [])) (by intro t k; exact XS.astore X30.here hx rfl (hb hby at_146) rfl rfl (l' := #[.val (.int p0), .val (.int p1), .val (.int p2), .val (.int p3), .val (.int p4), .val (.int w5), .val (.int w6), .val (.int z1), .val (.int z2), .val (.int (1 : Int32)), .val (.int (2 : Int32)), .val (.ref r25), .val (.ref r26), .val (.int w13), .val (.int z27), .val (.int (0 : Int32)), .val (.ref b29), .unset, .unset]) rfl k) ?_
              refine go (T' := T30) (f' := (mkF m 150 #[.val (.int p0), .val (.int p1), .val (.int p2), .val (.int p3), .val (.int p4), .val (.int w5), .val (.int w6), .val (.int z1), .val (.int z2), .val (.int (1 : Int32)), .val (.int (2 : Int32)), .val (.ref r25), .val (.ref r26), .val (.int w13), .val (.int z27), .val (.int (0 : Int32)), .val (.ref b29), .unset, .unset] [(.int (0 : Int32))])) (by intro t k; exact XS.iload X30.here hx rfl (hb hby at_148) rfl k) ?_
              refine go (T' := T30) (f' := (mkF m 153 #[.val (.int p0), .val (.int p1), .val (.int p2), .val (.int p3), .val (.int p4), .val (.int w5), .val (.int w6), .val (.int z1), .val (.int z2), .val (.int (1 : Int32)), .val (.int (2 : Int32)), .val (.ref r25), .val (.ref r26), .val (.int w13), .val (.int z27), .val (.int (0 : Int32)), .val (.ref b29), .unset, .unset] [])) (by intro t k; exact XS.ifNo X30.here hx rfl (hb hby at_150) rfl ((if0 _ _).trans (teq (rfl : (0 : Int32) = (0 : Int32))).2) k) ?_
              refine go (T' := T30) (f' := (mkF m 155 #[.val (.int p0), .val (.int p1), .val (.int p2), .val (.int p3), .val (.int p4), .val (.int w5), .val (.int w6), .val (.int z1), .val (.int z2), .val (.int (1 : Int32)), .val (.int (2 : Int32)), .val (.ref r25), .val (.ref r26), .val (.int w13), .val (.int z27), .val (.int (0 : Int32)), .val (.ref b29), .unset, .unset] [(.ref b29)])) (by intro t k; exact XS.aload X30.here hx rfl (hb hby at_153) rfl rfl k) ?_
              refine go (T' := T30) (f' := (mkF m 157 #[.val (.int p0), .val (.int p1), .val (.int p2), .val (.int p3), .val (.int p4), .val (.int w5), .val (.int w6), .val (.int z1), .val (.int z2), .val (.int (1 : Int32)), .val (.int (2 : Int32)), .val (.ref r25), .val (.ref r26), .val (.int w13), .val (.int z27), .val (.int (0 : Int32)), .val (.ref b29), .unset, .unset] [(.ref b29), (.ref b29)])) (by intro t k; exact XS.aload X30.here hx rfl (hb hby at_155) rfl rfl k) ?_
              obtain ⟨cq31, kq31, q31a, q31b, q31c⟩ := isOf hZ rfl E30_b29
              obtain ⟨_, _, ⟨T31, Lz31, kz31, nz31⟩, -, X31, ⟨Lc31, hQ31, lz31, yz31, zz31⟩, st31⟩ := X30.virtualBack hx (y := (⟨"com/example/backchain/backchain/model/Predicate", "equals", "(Ljava/lang/Object;)Z"⟩ : MethodName)) (z := (⟨"com/example/backchain/backchain/model/Predicate", "equals", "(Ljava/lang/Object;)Z"⟩ : MethodName)) hown (mvT hZ (hw _ (List.mem_of_getElem? (i := 51) rfl))) (mvT hZ (hw _ (List.mem_of_getElem? (i := 52) rfl))) (notFace_of_selects (args := #[]) (mvT hZ (hw _ (List.mem_of_getElem? (i := 54) rfl)))) (mvT hZ (hw _ (List.mem_of_getElem? (i := 54) rfl))) (mvT hZ (hw _ (List.mem_of_getElem? (i := 53) rfl))) (by decide) (backOf (W := 0) (rm10s l Z aw hw [] b29 b29  T30.heap n0 Z30 rfl) hZ (hw _ (List.mem_of_getElem? (i := 55) rfl)) (hw _ (List.mem_of_getElem? (i := 37) rfl)) (by decide) (by decide)) q31a q31c (g := (mkF m 157 #[.val (.int p0), .val (.int p1), .val (.int p2), .val (.int p3), .val (.int p4), .val (.int w5), .val (.int w6), .val (.int z1), .val (.int z2), .val (.int (1 : Int32)), .val (.int (2 : Int32)), .val (.ref r25), .val (.ref r26), .val (.int w13), .val (.int z27), .val (.int (0 : Int32)), .val (.ref b29), .unset, .unset] [(.ref b29), (.ref b29)])) rfl (by rw [hml]; rfl) (Steps.refl _) (argsL := [(.ref b29)]) (rest := []) (lenOf pd_28Ljava2flang2fObject3b29Z rfl) rfl (by show 2 * 0 + _ ≤ _; exact Nat.le_of_eq rfl) (hb hby at_157) (fun _ _ => ⟨rfl, rfl, (by decide : 7 + 0 ≤ _), (by decide : 16 + 0 ≤ _)⟩)
              dsimp only [Pt.U, Pt.locs, Pt.cells, Pt.slots] at X31 lz31 yz31 zz31 st31 hQ31
              subst lz31 yz31 zz31
              obtain ⟨rfl, N31q, e31⟩ := hQ31
              have N31 := Fr.app N30 N31q
              refine go (fun _ k => st31.trans k) ?_
              show Run _ _ _ _ _ _ _ T31 (mkF m 160 #[.val (.int p0), .val (.int p1), .val (.int p2), .val (.int p3), .val (.int p4), .val (.int w5), .val (.int w6), .val (.int z1), .val (.int z2), .val (.int (1 : Int32)), .val (.int (2 : Int32)), .val (.ref r25), .val (.ref r26), .val (.int w13), .val (.int z27), .val (.int (0 : Int32)), .val (.ref b29), .unset, .unset] [(.int (1 : Int32))])
              refine retZ X31 hx (t := .boolean) Bd.returns (by simp) (hb hby at_160) hlk (by decide) (by decide) ?_
              show Q0 Z p0 p1 p2 p3 p4 cs h0 n0 _ T31.heap _
              rw [e31]
              have hv' : (nar .boolean (1 : Int32)) = (1 : Int32) := by
                rfl
              have hv : (some (.int (nar .boolean (1 : Int32))) : Option Value) = some (.int (1 : Int32)) := congrArg (fun z => (some (.int z) : Option Value)) hv'
              exact ⟨hv, N31⟩
            · subst ez
              show Run _ _ _ _ _ _ _ T26 (mkF m 135 #[.val (.int p0), .val (.int p1), .val (.int p2), .val (.int p3), .val (.int p4), .val (.int w5), .val (.int w6), .val (.int z1), .val (.int z2), .val (.int (1 : Int32)), .val (.int (2 : Int32)), .val (.ref r25), .val (.ref r26), .val (.int w13), .val (.int z27), .val (.int (1 : Int32)), .unset, .unset, .unset] [])
              obtain ⟨T32, h32, X32, e32, E32, A32, D32, -, st32⟩ := newO X26 hx hZ hown (hw _ (List.mem_of_getElem? (i := 35) rfl)) (hw _ (List.mem_of_getElem? (i := 36) rfl)) (hw _ (List.mem_of_getElem? (i := 37) rfl)) rfl (g := (mkF m 135 #[.val (.int p0), .val (.int p1), .val (.int p2), .val (.int p3), .val (.int p4), .val (.int w5), .val (.int w6), .val (.int z1), .val (.int z2), .val (.int (1 : Int32)), .val (.int (2 : Int32)), .val (.ref r25), .val (.ref r26), .val (.int w13), .val (.int z27), .val (.int (1 : Int32)), .unset, .unset, .unset] [])) rfl (hb hby at_135) (by decide) (by decide)
              obtain ⟨b32, g32⟩ : ∃ z, z = T26.heap.size := ⟨_, rfl⟩
              rw [← g32] at A32 D32 st32
              have ne_r25_b32 : r25 ≠ b32 := Nat.ne_of_lt (Nat.lt_of_lt_of_eq E26_r25.lt g32.symm)
              have ne_r26_b32 : r26 ≠ b32 := Nat.ne_of_lt (Nat.lt_of_lt_of_eq E26.lt g32.symm)
              have ne_sb25_b32 : sb25 ≠ b32 := Nat.ne_of_lt (Nat.lt_of_lt_of_eq A26_sb25.lt g32.symm)
              have ne_sb26_b32 : sb26 ≠ b32 := Nat.ne_of_lt (Nat.lt_of_lt_of_eq Ab26.lt g32.symm)
              have ge_b32 : n0 ≤ b32 := Nat.le_trans Z26 (Nat.le_of_eq g32.symm)
              have K32 : Keep T26.heap h32 [] := (Keep.refl _ _).ext E32
              have E32_r25 := Exa.keep E26_r25 K32
              have E32_r26 := Exa.keep E26 K32
              have F32_r25_coder := Fld.keep F26_r25_coder K32 nin0
              have F32_r25_value := Fld.keep F26_r25_value K32 nin0
              have F32_r26_coder := Fld.keep Fc26 K32 nin0
              have F32_r26_value := Fld.keep Fv26 K32 nin0
              have A32_sb25 := Ary.keep A26_sb25 K32 nin0
              have A32_sb26 := Ary.keep Ab26 K32 nin0
              have O32 : Old Z n0 h32 := O26.keep K32 all0
              have Z32 : n0 ≤ h32.size := Nat.le_trans Z26 K32.1
              have F32_b32_name : Fld Z h32 b32 "com/example/backchain/backchain/model/Predicate" "name" "Ljava/lang/String;" .null := D32 (Or.inr (hw _ (List.mem_of_getElem? (i := 48) rfl))) (ty := (.object "java/lang/String")) (by decide)
              have F32_b32_arity : Fld Z h32 b32 "com/example/backchain/backchain/model/Predicate" "arity" "I" (.int (0 : Int32)) := D32 (Or.inr (hw _ (List.mem_of_getElem? (i := 50) rfl))) (ty := .int) (by decide)
              refine go st32 ?_
              show Run _ _ _ _ _ _ _ T32 (mkF m 138 #[.val (.int p0), .val (.int p1), .val (.int p2), .val (.int p3), .val (.int p4), .val (.int w5), .val (.int w6), .val (.int z1), .val (.int z2), .val (.int (1 : Int32)), .val (.int (2 : Int32)), .val (.ref r25), .val (.ref r26), .val (.int w13), .val (.int z27), .val (.int (1 : Int32)), .unset, .unset, .unset] [(.ref b32)])
              refine go (T' := T32) (f' := (mkF m 139 #[.val (.int p0), .val (.int p1), .val (.int p2), .val (.int p3), .val (.int p4), .val (.int w5), .val (.int w6), .val (.int z1), .val (.int z2), .val (.int (1 : Int32)), .val (.int (2 : Int32)), .val (.ref r25), .val (.ref r26), .val (.int w13), .val (.int z27), .val (.int (1 : Int32)), .unset, .unset, .unset] [(.ref b32), (.ref b32)])) (by intro t k; exact XS.dup X32.here hx rfl (hb hby at_138) rfl rfl k) ?_
              refine go (T' := T32) (f' := (mkF m 141 #[.val (.int p0), .val (.int p1), .val (.int p2), .val (.int p3), .val (.int p4), .val (.int w5), .val (.int w6), .val (.int z1), .val (.int z2), .val (.int (1 : Int32)), .val (.int (2 : Int32)), .val (.ref r25), .val (.ref r26), .val (.int w13), .val (.int z27), .val (.int (1 : Int32)), .unset, .unset, .unset] [(.ref r25), (.ref b32), (.ref b32)])) (by intro t k; exact XS.aload X32.here hx rfl (hb hby at_139) rfl rfl k) ?_
              refine go (T' := T32) (f' := (mkF m 143 #[.val (.int p0), .val (.int p1), .val (.int p2), .val (.int p3), .val (.int p4), .val (.int w5), .val (.int w6), .val (.int z1), .val (.int z2), .val (.int (1 : Int32)), .val (.int (2 : Int32)), .val (.ref r25), .val (.ref r26), .val (.int w13), .val (.int z27), .val (.int (1 : Int32)), .unset, .unset, .unset] [(.int w13), (.ref r25), (.ref b32), (.ref b32)])) (by intro t k; exact XS.iload X32.here hx rfl (hb hby at_141) rfl k) ?_
              obtain ⟨_, _, ⟨T33, Lz33, kz33, nz33⟩, -, X33, ⟨Lc33, hQ33, lz33, yz33, zz33⟩, st33⟩ := X32.specialBack hx (y := (⟨"com/example/backchain/backchain/model/Predicate", "<init>", "(Ljava/lang/String;I)V"⟩ : MethodName)) rfl hown (mvT hZ (hw _ (List.mem_of_getElem? (i := 38) rfl))) (mvT hZ (hw _ (List.mem_of_getElem? (i := 39) rfl))) (mvT hZ (hw _ (List.mem_of_getElem? (i := 40) rfl))) (by decide) (backOf (W := 1) (rm8 l Z aw hw [] b32 r25 w13 sb25 [(.int (nar .byte (((nar .char w5)).toInt8.toInt32)))] (1 : Int32) h32 n0 Z32 A32 F32_b32_name F32_b32_arity ge_b32 E32_r25 F32_r25_value A32_sb25 (Ne.symm ne_r25_b32) (Ne.symm ne_sb25_b32) rfl (by decide) ha13) hZ (hw _ (List.mem_of_getElem? (i := 40) rfl)) (hw _ (List.mem_of_getElem? (i := 37) rfl)) (by decide) (by decide)) (g := (mkF m 143 #[.val (.int p0), .val (.int p1), .val (.int p2), .val (.int p3), .val (.int p4), .val (.int w5), .val (.int w6), .val (.int z1), .val (.int z2), .val (.int (1 : Int32)), .val (.int (2 : Int32)), .val (.ref r25), .val (.ref r26), .val (.int w13), .val (.int z27), .val (.int (1 : Int32)), .unset, .unset, .unset] [(.int w13), (.ref r25), (.ref b32), (.ref b32)])) rfl (by rw [hml]; rfl) (Steps.refl _) (a := b32) (argsL := [(.ref r25), (.int w13)]) (rest := [(.ref b32)]) (lenOf pd_28Ljava2flang2fString3bI29V rfl) rfl (by show 2 * 0 + _ ≤ _; exact Nat.le_of_eq rfl) (hb hby at_143) (fun _ _ => ⟨rfl, e32, (by decide : 7 + 0 ≤ _), (by decide : 16 + 0 ≤ _)⟩)
              dsimp only [Pt.U, Pt.locs, Pt.cells, Pt.slots] at X33 lz33 yz33 zz33 st33 hQ33
              subst lz33 yz33 zz33
              obtain ⟨rfl, N33q, K33, Fn33, Fa33⟩ := hQ33
              have E33_r25 := Exa.keep E32_r25 K33
              have E33_r26 := Exa.keep E32_r26 K33
              have E33_b32 := Exa.keep A32 K33
              have F33_r25_coder := Fld.keep F32_r25_coder K33 (ninS ne_r25_b32 nin0)
              have F33_r25_value := Fld.keep F32_r25_value K33 (ninS ne_r25_b32 nin0)
              have F33_r26_coder := Fld.keep F32_r26_coder K33 (ninS ne_r26_b32 nin0)
              have F33_r26_value := Fld.keep F32_r26_value K33 (ninS ne_r26_b32 nin0)
              have A33_sb25 := Ary.keep A32_sb25 K33 (ninS ne_sb25_b32 nin0)
              have A33_sb26 := Ary.keep A32_sb26 K33 (ninS ne_sb26_b32 nin0)
              have O33 : Old Z n0 T33.heap := O32.keep K33 (allS ge_b32 all0)
              have Z33 : n0 ≤ T33.heap.size := Nat.le_trans Z32 K33.1
              have N33 := Fr.app N26 N33q
              refine go (fun _ k => st33.trans k) ?_
              show Run _ _ _ _ _ _ _ T33 (mkF m 146 #[.val (.int p0), .val (.int p1), .val (.int p2), .val (.int p3), .val (.int p4), .val (.int w5), .val (.int w6), .val (.int z1), .val (.int z2), .val (.int (1 : Int32)), .val (.int (2 : Int32)), .val (.ref r25), .val (.ref r26), .val (.int w13), .val (.int z27), .val (.int (1 : Int32)), .unset, .unset, .unset] [(.ref b32)])
              refine go (T' := T33) (f' := (mkF m 148 #[.val (.int p0), .val (.int p1), .val (.int p2), .val (.int p3), .val (.int p4), .val (.int w5), .val (.int w6), .val (.int z1), .val (.int z2), .val (.int (1 : Int32)), .val (.int (2 : Int32)), .val (.ref r25), .val (.ref r26), .val (.int w13), .val (.int z27), .val (.int (1 : Int32)), .val (.ref b32), .unset, .unset] [])) (by intro t k; exact XS.astore X33.here hx rfl (hb hby at_146) rfl rfl (l' := #[.val (.int p0), .val (.int p1), .val (.int p2), .val (.int p3), .val (.int p4), .val (.int w5), .val (.int w6), .val (.int z1), .val (.int z2), .val (.int (1 : Int32)), .val (.int (2 : Int32)), .val (.ref r25), .val (.ref r26), .val (.int w13), .val (.int z27), .val (.int (1 : Int32)), .val (.ref b32), .unset, .unset]) rfl k) ?_
              refine go (T' := T33) (f' := (mkF m 150 #[.val (.int p0), .val (.int p1), .val (.int p2), .val (.int p3), .val (.int p4), .val (.int w5), .val (.int w6), .val (.int z1), .val (.int z2), .val (.int (1 : Int32)), .val (.int (2 : Int32)), .val (.ref r25), .val (.ref r26), .val (.int w13), .val (.int z27), .val (.int (1 : Int32)), .val (.ref b32), .unset, .unset] [(.int (1 : Int32))])) (by intro t k; exact XS.iload X33.here hx rfl (hb hby at_148) rfl k) ?_
              refine go (T' := T33) (f' := (mkF m 161 #[.val (.int p0), .val (.int p1), .val (.int p2), .val (.int p3), .val (.int p4), .val (.int w5), .val (.int w6), .val (.int z1), .val (.int z2), .val (.int (1 : Int32)), .val (.int (2 : Int32)), .val (.ref r25), .val (.ref r26), .val (.int w13), .val (.int z27), .val (.int (1 : Int32)), .val (.ref b32), .unset, .unset] [])) (by intro t k; exact XS.ifYes X33.here hx rfl (pc0 := 150) (pc' := 161) rfl (hb hby at_150) rfl ((if0 _ _).trans (feq (by decide : ¬ ((1 : Int32) = (0 : Int32)))).2) (by decide) (by decide) k) ?_
              refine go (T' := T33) (f' := (mkF m 163 #[.val (.int p0), .val (.int p1), .val (.int p2), .val (.int p3), .val (.int p4), .val (.int w5), .val (.int w6), .val (.int z1), .val (.int z2), .val (.int (1 : Int32)), .val (.int (2 : Int32)), .val (.ref r25), .val (.ref r26), .val (.int w13), .val (.int z27), .val (.int (1 : Int32)), .val (.ref b32), .unset, .unset] [(.int (1 : Int32))])) (by intro t k; exact XS.iload X33.here hx rfl (hb hby at_161) rfl k) ?_
              refine go (T' := T33) (f' := (mkF m 164 #[.val (.int p0), .val (.int p1), .val (.int p2), .val (.int p3), .val (.int p4), .val (.int w5), .val (.int w6), .val (.int z1), .val (.int z2), .val (.int (1 : Int32)), .val (.int (2 : Int32)), .val (.ref r25), .val (.ref r26), .val (.int w13), .val (.int z27), .val (.int (1 : Int32)), .val (.ref b32), .unset, .unset] [(.int (2 : Int32)), (.int (1 : Int32))])) (by intro t k; exact XS.iconst X33.here hx rfl (hb hby at_163) k) ?_
              refine go (T' := T33) (f' := (mkF m 183 #[.val (.int p0), .val (.int p1), .val (.int p2), .val (.int p3), .val (.int p4), .val (.int w5), .val (.int w6), .val (.int z1), .val (.int z2), .val (.int (1 : Int32)), .val (.int (2 : Int32)), .val (.ref r25), .val (.ref r26), .val (.int w13), .val (.int z27), .val (.int (1 : Int32)), .val (.ref b32), .unset, .unset] [])) (by intro t k; exact XS.icmpYes X33.here hx rfl (pc0 := 164) (pc' := 183) rfl (hb hby at_164) rfl (feq (by decide : ¬ ((1 : Int32) = (2 : Int32)))).2 (by decide) (by decide) k) ?_
              refine go (T' := T33) (f' := (mkF m 185 #[.val (.int p0), .val (.int p1), .val (.int p2), .val (.int p3), .val (.int p4), .val (.int w5), .val (.int w6), .val (.int z1), .val (.int z2), .val (.int (1 : Int32)), .val (.int (2 : Int32)), .val (.ref r25), .val (.ref r26), .val (.int w13), .val (.int z27), .val (.int (1 : Int32)), .val (.ref b32), .unset, .unset] [(.int (1 : Int32))])) (by intro t k; exact XS.iload X33.here hx rfl (hb hby at_183) rfl k) ?_
              refine go (T' := T33) (f' := (mkF m 186 #[.val (.int p0), .val (.int p1), .val (.int p2), .val (.int p3), .val (.int p4), .val (.int w5), .val (.int w6), .val (.int z1), .val (.int z2), .val (.int (1 : Int32)), .val (.int (2 : Int32)), .val (.ref r25), .val (.ref r26), .val (.int w13), .val (.int z27), .val (.int (1 : Int32)), .val (.ref b32), .unset, .unset] [(.int (3 : Int32)), (.int (1 : Int32))])) (by intro t k; exact XS.iconst X33.here hx rfl (hb hby at_185) k) ?_
              refine go (T' := T33) (f' := (mkF m 204 #[.val (.int p0), .val (.int p1), .val (.int p2), .val (.int p3), .val (.int p4), .val (.int w5), .val (.int w6), .val (.int z1), .val (.int z2), .val (.int (1 : Int32)), .val (.int (2 : Int32)), .val (.ref r25), .val (.ref r26), .val (.int w13), .val (.int z27), .val (.int (1 : Int32)), .val (.ref b32), .unset, .unset] [])) (by intro t k; exact XS.icmpYes X33.here hx rfl (pc0 := 186) (pc' := 204) rfl (hb hby at_186) rfl (feq (by decide : ¬ ((1 : Int32) = (3 : Int32)))).2 (by decide) (by decide) k) ?_
              obtain ⟨T34, h34, X34, e34, E34, A34, D34, -, st34⟩ := newO X33 hx hZ hown (hw _ (List.mem_of_getElem? (i := 35) rfl)) (hw _ (List.mem_of_getElem? (i := 36) rfl)) (hw _ (List.mem_of_getElem? (i := 37) rfl)) rfl (g := (mkF m 204 #[.val (.int p0), .val (.int p1), .val (.int p2), .val (.int p3), .val (.int p4), .val (.int w5), .val (.int w6), .val (.int z1), .val (.int z2), .val (.int (1 : Int32)), .val (.int (2 : Int32)), .val (.ref r25), .val (.ref r26), .val (.int w13), .val (.int z27), .val (.int (1 : Int32)), .val (.ref b32), .unset, .unset] [])) rfl (hb hby at_204) (by decide) (by decide)
              obtain ⟨b34, g34⟩ : ∃ z, z = T33.heap.size := ⟨_, rfl⟩
              rw [← g34] at A34 D34 st34
              have ne_r25_b34 : r25 ≠ b34 := Nat.ne_of_lt (Nat.lt_of_lt_of_eq E33_r25.lt g34.symm)
              have ne_r26_b34 : r26 ≠ b34 := Nat.ne_of_lt (Nat.lt_of_lt_of_eq E33_r26.lt g34.symm)
              have ne_b32_b34 : b32 ≠ b34 := Nat.ne_of_lt (Nat.lt_of_lt_of_eq E33_b32.lt g34.symm)
              have ne_sb25_b34 : sb25 ≠ b34 := Nat.ne_of_lt (Nat.lt_of_lt_of_eq A33_sb25.lt g34.symm)
              have ne_sb26_b34 : sb26 ≠ b34 := Nat.ne_of_lt (Nat.lt_of_lt_of_eq A33_sb26.lt g34.symm)
              have ge_b34 : n0 ≤ b34 := Nat.le_trans Z33 (Nat.le_of_eq g34.symm)
              have K34 : Keep T33.heap h34 [] := (Keep.refl _ _).ext E34
              have E34_r25 := Exa.keep E33_r25 K34
              have E34_r26 := Exa.keep E33_r26 K34
              have E34_b32 := Exa.keep E33_b32 K34
              have F34_r25_coder := Fld.keep F33_r25_coder K34 nin0
              have F34_r25_value := Fld.keep F33_r25_value K34 nin0
              have F34_r26_coder := Fld.keep F33_r26_coder K34 nin0
              have F34_r26_value := Fld.keep F33_r26_value K34 nin0
              have F34_b32_name := Fld.keep Fn33 K34 nin0
              have F34_b32_arity := Fld.keep Fa33 K34 nin0
              have A34_sb25 := Ary.keep A33_sb25 K34 nin0
              have A34_sb26 := Ary.keep A33_sb26 K34 nin0
              have O34 : Old Z n0 h34 := O33.keep K34 all0
              have Z34 : n0 ≤ h34.size := Nat.le_trans Z33 K34.1
              have F34_b34_name : Fld Z h34 b34 "com/example/backchain/backchain/model/Predicate" "name" "Ljava/lang/String;" .null := D34 (Or.inr (hw _ (List.mem_of_getElem? (i := 48) rfl))) (ty := (.object "java/lang/String")) (by decide)
              have F34_b34_arity : Fld Z h34 b34 "com/example/backchain/backchain/model/Predicate" "arity" "I" (.int (0 : Int32)) := D34 (Or.inr (hw _ (List.mem_of_getElem? (i := 50) rfl))) (ty := .int) (by decide)
              refine go st34 ?_
              show Run _ _ _ _ _ _ _ T34 (mkF m 207 #[.val (.int p0), .val (.int p1), .val (.int p2), .val (.int p3), .val (.int p4), .val (.int w5), .val (.int w6), .val (.int z1), .val (.int z2), .val (.int (1 : Int32)), .val (.int (2 : Int32)), .val (.ref r25), .val (.ref r26), .val (.int w13), .val (.int z27), .val (.int (1 : Int32)), .val (.ref b32), .unset, .unset] [(.ref b34)])
              refine go (T' := T34) (f' := (mkF m 208 #[.val (.int p0), .val (.int p1), .val (.int p2), .val (.int p3), .val (.int p4), .val (.int w5), .val (.int w6), .val (.int z1), .val (.int z2), .val (.int (1 : Int32)), .val (.int (2 : Int32)), .val (.ref r25), .val (.ref r26), .val (.int w13), .val (.int z27), .val (.int (1 : Int32)), .val (.ref b32), .unset, .unset] [(.ref b34), (.ref b34)])) (by intro t k; exact XS.dup X34.here hx rfl (hb hby at_207) rfl rfl k) ?_
              refine go (T' := T34) (f' := (mkF m 210 #[.val (.int p0), .val (.int p1), .val (.int p2), .val (.int p3), .val (.int p4), .val (.int w5), .val (.int w6), .val (.int z1), .val (.int z2), .val (.int (1 : Int32)), .val (.int (2 : Int32)), .val (.ref r25), .val (.ref r26), .val (.int w13), .val (.int z27), .val (.int (1 : Int32)), .val (.ref b32), .unset, .unset] [(.ref r26), (.ref b34), (.ref b34)])) (by intro t k; exact XS.aload X34.here hx rfl (hb hby at_208) rfl rfl k) ?_
              refine go (T' := T34) (f' := (mkF m 212 #[.val (.int p0), .val (.int p1), .val (.int p2), .val (.int p3), .val (.int p4), .val (.int w5), .val (.int w6), .val (.int z1), .val (.int z2), .val (.int (1 : Int32)), .val (.int (2 : Int32)), .val (.ref r25), .val (.ref r26), .val (.int w13), .val (.int z27), .val (.int (1 : Int32)), .val (.ref b32), .unset, .unset] [(.int z27), (.ref r26), (.ref b34), (.ref b34)])) (by intro t k; exact XS.iload X34.here hx rfl (hb hby at_210) rfl k) ?_
              obtain ⟨_, _, ⟨T35, Lz35, kz35, nz35⟩, -, X35, ⟨Lc35, hQ35, lz35, yz35, zz35⟩, st35⟩ := X34.specialBack hx (y := (⟨"com/example/backchain/backchain/model/Predicate", "<init>", "(Ljava/lang/String;I)V"⟩ : MethodName)) rfl hown (mvT hZ (hw _ (List.mem_of_getElem? (i := 38) rfl))) (mvT hZ (hw _ (List.mem_of_getElem? (i := 39) rfl))) (mvT hZ (hw _ (List.mem_of_getElem? (i := 40) rfl))) (by decide) (backOf (W := 1) (rm8 l Z aw hw [] b34 r26 z27 sb26 [(.int (nar .byte (((nar .char z1)).toInt8.toInt32))), (.int (nar .byte (((nar .char z2)).toInt8.toInt32)))] (2 : Int32) h34 n0 Z34 A34 F34_b34_name F34_b34_arity ge_b34 E34_r26 F34_r26_value A34_sb26 (Ne.symm ne_r26_b34) (Ne.symm ne_sb26_b34) rfl (by decide) ha14) hZ (hw _ (List.mem_of_getElem? (i := 40) rfl)) (hw _ (List.mem_of_getElem? (i := 37) rfl)) (by decide) (by decide)) (g := (mkF m 212 #[.val (.int p0), .val (.int p1), .val (.int p2), .val (.int p3), .val (.int p4), .val (.int w5), .val (.int w6), .val (.int z1), .val (.int z2), .val (.int (1 : Int32)), .val (.int (2 : Int32)), .val (.ref r25), .val (.ref r26), .val (.int w13), .val (.int z27), .val (.int (1 : Int32)), .val (.ref b32), .unset, .unset] [(.int z27), (.ref r26), (.ref b34), (.ref b34)])) rfl (by rw [hml]; rfl) (Steps.refl _) (a := b34) (argsL := [(.ref r26), (.int z27)]) (rest := [(.ref b34)]) (lenOf pd_28Ljava2flang2fString3bI29V rfl) rfl (by show 2 * 0 + _ ≤ _; exact Nat.le_of_eq rfl) (hb hby at_212) (fun _ _ => ⟨rfl, e34, (by decide : 8 + 0 ≤ _), (by decide : 18 + 0 ≤ _)⟩)
              dsimp only [Pt.U, Pt.locs, Pt.cells, Pt.slots] at X35 lz35 yz35 zz35 st35 hQ35
              subst lz35 yz35 zz35
              obtain ⟨rfl, N35q, K35, Fn35, Fa35⟩ := hQ35
              have E35_r25 := Exa.keep E34_r25 K35
              have E35_r26 := Exa.keep E34_r26 K35
              have E35_b32 := Exa.keep E34_b32 K35
              have E35_b34 := Exa.keep A34 K35
              have F35_r25_coder := Fld.keep F34_r25_coder K35 (ninS ne_r25_b34 nin0)
              have F35_r25_value := Fld.keep F34_r25_value K35 (ninS ne_r25_b34 nin0)
              have F35_r26_coder := Fld.keep F34_r26_coder K35 (ninS ne_r26_b34 nin0)
              have F35_r26_value := Fld.keep F34_r26_value K35 (ninS ne_r26_b34 nin0)
              have F35_b32_name := Fld.keep F34_b32_name K35 (ninS ne_b32_b34 nin0)
              have F35_b32_arity := Fld.keep F34_b32_arity K35 (ninS ne_b32_b34 nin0)
              have A35_sb25 := Ary.keep A34_sb25 K35 (ninS ne_sb25_b34 nin0)
              have A35_sb26 := Ary.keep A34_sb26 K35 (ninS ne_sb26_b34 nin0)
              have O35 : Old Z n0 T35.heap := O34.keep K35 (allS ge_b34 all0)
              have Z35 : n0 ≤ T35.heap.size := Nat.le_trans Z34 K35.1
              have N35 := Fr.app N33 N35q
              refine go (fun _ k => st35.trans k) ?_
              show Run _ _ _ _ _ _ _ T35 (mkF m 215 #[.val (.int p0), .val (.int p1), .val (.int p2), .val (.int p3), .val (.int p4), .val (.int w5), .val (.int w6), .val (.int z1), .val (.int z2), .val (.int (1 : Int32)), .val (.int (2 : Int32)), .val (.ref r25), .val (.ref r26), .val (.int w13), .val (.int z27), .val (.int (1 : Int32)), .val (.ref b32), .unset, .unset] [(.ref b34)])
              refine go (T' := T35) (f' := (mkF m 217 #[.val (.int p0), .val (.int p1), .val (.int p2), .val (.int p3), .val (.int p4), .val (.int w5), .val (.int w6), .val (.int z1), .val (.int z2), .val (.int (1 : Int32)), .val (.int (2 : Int32)), .val (.ref r25), .val (.ref r26), .val (.int w13), .val (.int z27), .val (.int (1 : Int32)), .val (.ref b32), .val (.ref b34), .unset] [])) (by intro t k; exact XS.astore X35.here hx rfl (hb hby at_215) rfl rfl (l' := #[.val (.int p0), .val (.int p1), .val (.int p2), .val (.int p3), .val (.int p4), .val (.int w5), .val (.int w6), .val (.int z1), .val (.int z2), .val (.int (1 : Int32)), .val (.int (2 : Int32)), .val (.ref r25), .val (.ref r26), .val (.int w13), .val (.int z27), .val (.int (1 : Int32)), .val (.ref b32), .val (.ref b34), .unset]) rfl k) ?_
              refine go (T' := T35) (f' := (mkF m 219 #[.val (.int p0), .val (.int p1), .val (.int p2), .val (.int p3), .val (.int p4), .val (.int w5), .val (.int w6), .val (.int z1), .val (.int z2), .val (.int (1 : Int32)), .val (.int (2 : Int32)), .val (.ref r25), .val (.ref r26), .val (.int w13), .val (.int z27), .val (.int (1 : Int32)), .val (.ref b32), .val (.ref b34), .unset] [(.int w13)])) (by intro t k; exact XS.iload X35.here hx rfl (hb hby at_217) rfl k) ?_
              refine go (T' := T35) (f' := (mkF m 221 #[.val (.int p0), .val (.int p1), .val (.int p2), .val (.int p3), .val (.int p4), .val (.int w5), .val (.int w6), .val (.int z1), .val (.int z2), .val (.int (1 : Int32)), .val (.int (2 : Int32)), .val (.ref r25), .val (.ref r26), .val (.int w13), .val (.int z27), .val (.int (1 : Int32)), .val (.ref b32), .val (.ref b34), .unset] [(.int z27), (.int w13)])) (by intro t k; exact XS.iload X35.here hx rfl (hb hby at_219) rfl k) ?_
              have J221 : Run p e s below (Q0 Z p0 p1 p2 p3 p4 cs h0 n0) room_1.cells room_1.slots T35 (mkF m 256 #[.val (.int p0), .val (.int p1), .val (.int p2), .val (.int p3), .val (.int p4), .val (.int w5), .val (.int w6), .val (.int z1), .val (.int z2), .val (.int (1 : Int32)), .val (.int (2 : Int32)), .val (.ref r25), .val (.ref r26), .val (.int w13), .val (.int z27), .val (.int (1 : Int32)), .val (.ref b32), .val (.ref b34), .unset] [(.int (0 : Int32))]) := by
                show Run _ _ _ _ _ _ _ T35 (mkF m 256 #[.val (.int p0), .val (.int p1), .val (.int p2), .val (.int p3), .val (.int p4), .val (.int w5), .val (.int w6), .val (.int z1), .val (.int z2), .val (.int (1 : Int32)), .val (.int (2 : Int32)), .val (.ref r25), .val (.ref r26), .val (.int w13), .val (.int z27), .val (.int (1 : Int32)), .val (.ref b32), .val (.ref b34), .unset] [(.int (0 : Int32))])
                refine go (T' := T35) (f' := (mkF m 258 #[.val (.int p0), .val (.int p1), .val (.int p2), .val (.int p3), .val (.int p4), .val (.int w5), .val (.int w6), .val (.int z1), .val (.int z2), .val (.int (1 : Int32)), .val (.int (2 : Int32)), .val (.ref r25), .val (.ref r26), .val (.int w13), .val (.int z27), .val (.int (1 : Int32)), .val (.ref b32), .val (.ref b34), .val (.int (0 : Int32))] [])) (by intro t k; exact XS.istore X35.here hx rfl (hb hby at_256) rfl (l' := #[.val (.int p0), .val (.int p1), .val (.int p2), .val (.int p3), .val (.int p4), .val (.int w5), .val (.int w6), .val (.int z1), .val (.int z2), .val (.int (1 : Int32)), .val (.int (2 : Int32)), .val (.ref r25), .val (.ref r26), .val (.int w13), .val (.int z27), .val (.int (1 : Int32)), .val (.ref b32), .val (.ref b34), .val (.int (0 : Int32))]) rfl k) ?_
                refine go (T' := T35) (f' := (mkF m 260 #[.val (.int p0), .val (.int p1), .val (.int p2), .val (.int p3), .val (.int p4), .val (.int w5), .val (.int w6), .val (.int z1), .val (.int z2), .val (.int (1 : Int32)), .val (.int (2 : Int32)), .val (.ref r25), .val (.ref r26), .val (.int w13), .val (.int z27), .val (.int (1 : Int32)), .val (.ref b32), .val (.ref b34), .val (.int (0 : Int32))] [(.ref b32)])) (by intro t k; exact XS.aload X35.here hx rfl (hb hby at_258) rfl rfl k) ?_
                refine go (T' := T35) (f' := (mkF m 262 #[.val (.int p0), .val (.int p1), .val (.int p2), .val (.int p3), .val (.int p4), .val (.int w5), .val (.int w6), .val (.int z1), .val (.int z2), .val (.int (1 : Int32)), .val (.int (2 : Int32)), .val (.ref r25), .val (.ref r26), .val (.int w13), .val (.int z27), .val (.int (1 : Int32)), .val (.ref b32), .val (.ref b34), .val (.int (0 : Int32))] [(.ref b34), (.ref b32)])) (by intro t k; exact XS.aload X35.here hx rfl (hb hby at_260) rfl rfl k) ?_
                obtain ⟨cq36, kq36, q36a, q36b, q36c⟩ := isOf hZ rfl E35_b32
                obtain ⟨_, _, ⟨T36, Lz36, kz36, nz36⟩, -, X36, ⟨Lc36, hQ36, lz36, yz36, zz36⟩, st36⟩ := X35.virtualBack hx (y := (⟨"com/example/backchain/backchain/model/Predicate", "equals", "(Ljava/lang/Object;)Z"⟩ : MethodName)) (z := (⟨"com/example/backchain/backchain/model/Predicate", "equals", "(Ljava/lang/Object;)Z"⟩ : MethodName)) hown (mvT hZ (hw _ (List.mem_of_getElem? (i := 51) rfl))) (mvT hZ (hw _ (List.mem_of_getElem? (i := 52) rfl))) (notFace_of_selects (args := #[]) (mvT hZ (hw _ (List.mem_of_getElem? (i := 54) rfl)))) (mvT hZ (hw _ (List.mem_of_getElem? (i := 54) rfl))) (mvT hZ (hw _ (List.mem_of_getElem? (i := 53) rfl))) (by decide) (backOf (W := 0) (rm10n12 l Z aw hw [] b32 b34 cs w13 z27 r25 r26 sb25 sb26 (nar .byte (((nar .char w5)).toInt8.toInt32)) (nar .byte (((nar .char z1)).toInt8.toInt32)) (nar .byte (((nar .char z2)).toInt8.toInt32)) T35.heap n0 Z35 O35 S_cs hcs E35_b32 F35_b32_name F35_b32_arity E35_b34 Fn35 Fa35 E35_r25 F35_r25_coder F35_r25_value A35_sb25 E35_r26 F35_r26_coder F35_r26_value A35_sb26 ne_b32_b34 ne_r25_r26) hZ (hw _ (List.mem_of_getElem? (i := 55) rfl)) (hw _ (List.mem_of_getElem? (i := 37) rfl)) (by decide) (by decide)) q36a q36c (g := (mkF m 262 #[.val (.int p0), .val (.int p1), .val (.int p2), .val (.int p3), .val (.int p4), .val (.int w5), .val (.int w6), .val (.int z1), .val (.int z2), .val (.int (1 : Int32)), .val (.int (2 : Int32)), .val (.ref r25), .val (.ref r26), .val (.int w13), .val (.int z27), .val (.int (1 : Int32)), .val (.ref b32), .val (.ref b34), .val (.int (0 : Int32))] [(.ref b34), (.ref b32)])) rfl (by rw [hml]; rfl) (Steps.refl _) (argsL := [(.ref b34)]) (rest := []) (lenOf pd_28Ljava2flang2fObject3b29Z rfl) rfl (by show 2 * 0 + _ ≤ _; exact Nat.le_of_eq rfl) (hb hby at_262) (fun _ _ => ⟨rfl, rfl, (by decide : 8 + 0 ≤ _), (by decide : 18 + 0 ≤ _)⟩)
                dsimp only [Pt.U, Pt.locs, Pt.cells, Pt.slots] at X36 lz36 yz36 zz36 st36 hQ36
                subst lz36 yz36 zz36
                obtain ⟨rfl, N36q, e36⟩ := hQ36
                have N36 := Fr.app N35 N36q
                refine go (fun _ k => st36.trans k) ?_
                show Run _ _ _ _ _ _ _ T36 (mkF m 265 #[.val (.int p0), .val (.int p1), .val (.int p2), .val (.int p3), .val (.int p4), .val (.int w5), .val (.int w6), .val (.int z1), .val (.int z2), .val (.int (1 : Int32)), .val (.int (2 : Int32)), .val (.ref r25), .val (.ref r26), .val (.int w13), .val (.int z27), .val (.int (1 : Int32)), .val (.ref b32), .val (.ref b34), .val (.int (0 : Int32))] [(.int (0 : Int32))])
                refine go (T' := T36) (f' := (mkF m 267 #[.val (.int p0), .val (.int p1), .val (.int p2), .val (.int p3), .val (.int p4), .val (.int w5), .val (.int w6), .val (.int z1), .val (.int z2), .val (.int (1 : Int32)), .val (.int (2 : Int32)), .val (.ref r25), .val (.ref r26), .val (.int w13), .val (.int z27), .val (.int (1 : Int32)), .val (.ref b32), .val (.ref b34), .val (.int (0 : Int32))] [(.int (0 : Int32)), (.int (0 : Int32))])) (by intro t k; exact XS.iload X36.here hx rfl (hb hby at_265) rfl k) ?_
                refine go (T' := T36) (f' := (mkF m 270 #[.val (.int p0), .val (.int p1), .val (.int p2), .val (.int p3), .val (.int p4), .val (.int w5), .val (.int w6), .val (.int z1), .val (.int z2), .val (.int (1 : Int32)), .val (.int (2 : Int32)), .val (.ref r25), .val (.ref r26), .val (.int w13), .val (.int z27), .val (.int (1 : Int32)), .val (.ref b32), .val (.ref b34), .val (.int (0 : Int32))] [])) (by intro t k; exact XS.icmpNo X36.here hx rfl (hb hby at_267) rfl (teq ((rfl : _) : (0 : Int32) = (0 : Int32))).2 k) ?_
                refine go (T' := T36) (f' := (mkF m 272 #[.val (.int p0), .val (.int p1), .val (.int p2), .val (.int p3), .val (.int p4), .val (.int w5), .val (.int w6), .val (.int z1), .val (.int z2), .val (.int (1 : Int32)), .val (.int (2 : Int32)), .val (.ref r25), .val (.ref r26), .val (.int w13), .val (.int z27), .val (.int (1 : Int32)), .val (.ref b32), .val (.ref b34), .val (.int (0 : Int32))] [(.ref b34)])) (by intro t k; exact XS.aload X36.here hx rfl (hb hby at_270) rfl rfl k) ?_
                refine go (T' := T36) (f' := (mkF m 274 #[.val (.int p0), .val (.int p1), .val (.int p2), .val (.int p3), .val (.int p4), .val (.int w5), .val (.int w6), .val (.int z1), .val (.int z2), .val (.int (1 : Int32)), .val (.int (2 : Int32)), .val (.ref r25), .val (.ref r26), .val (.int w13), .val (.int z27), .val (.int (1 : Int32)), .val (.ref b32), .val (.ref b34), .val (.int (0 : Int32))] [(.ref b32), (.ref b34)])) (by intro t k; exact XS.aload X36.here hx rfl (hb hby at_272) rfl rfl k) ?_
                obtain ⟨cq37, kq37, q37a, q37b, q37c⟩ := isOf hZ e36 E35_b34
                obtain ⟨_, _, ⟨T37, Lz37, kz37, nz37⟩, -, X37, ⟨Lc37, hQ37, lz37, yz37, zz37⟩, st37⟩ := X36.virtualBack hx (y := (⟨"com/example/backchain/backchain/model/Predicate", "equals", "(Ljava/lang/Object;)Z"⟩ : MethodName)) (z := (⟨"com/example/backchain/backchain/model/Predicate", "equals", "(Ljava/lang/Object;)Z"⟩ : MethodName)) hown (mvT hZ (hw _ (List.mem_of_getElem? (i := 51) rfl))) (mvT hZ (hw _ (List.mem_of_getElem? (i := 52) rfl))) (notFace_of_selects (args := #[]) (mvT hZ (hw _ (List.mem_of_getElem? (i := 54) rfl)))) (mvT hZ (hw _ (List.mem_of_getElem? (i := 54) rfl))) (mvT hZ (hw _ (List.mem_of_getElem? (i := 53) rfl))) (by decide) (backOf (W := 0) (rm10n21 l Z aw hw [] b34 b32 cs z27 w13 r26 r25 sb26 sb25 (nar .byte (((nar .char z1)).toInt8.toInt32)) (nar .byte (((nar .char z2)).toInt8.toInt32)) (nar .byte (((nar .char w5)).toInt8.toInt32)) T35.heap n0 Z35 O35 S_cs hcs E35_b34 Fn35 Fa35 E35_b32 F35_b32_name F35_b32_arity E35_r26 F35_r26_coder F35_r26_value A35_sb26 E35_r25 F35_r25_coder F35_r25_value A35_sb25 (Ne.symm ne_b32_b34) (Ne.symm ne_r25_r26)) hZ (hw _ (List.mem_of_getElem? (i := 55) rfl)) (hw _ (List.mem_of_getElem? (i := 37) rfl)) (by decide) (by decide)) q37a q37c (g := (mkF m 274 #[.val (.int p0), .val (.int p1), .val (.int p2), .val (.int p3), .val (.int p4), .val (.int w5), .val (.int w6), .val (.int z1), .val (.int z2), .val (.int (1 : Int32)), .val (.int (2 : Int32)), .val (.ref r25), .val (.ref r26), .val (.int w13), .val (.int z27), .val (.int (1 : Int32)), .val (.ref b32), .val (.ref b34), .val (.int (0 : Int32))] [(.ref b32), (.ref b34)])) rfl (by rw [hml]; rfl) (Steps.refl _) (argsL := [(.ref b32)]) (rest := []) (lenOf pd_28Ljava2flang2fObject3b29Z rfl) rfl (by show 2 * 0 + _ ≤ _; exact Nat.le_of_eq rfl) (hb hby at_274) (fun _ _ => ⟨rfl, e36, (by decide : 8 + 0 ≤ _), (by decide : 18 + 0 ≤ _)⟩)
                dsimp only [Pt.U, Pt.locs, Pt.cells, Pt.slots] at X37 lz37 yz37 zz37 st37 hQ37
                subst lz37 yz37 zz37
                obtain ⟨rfl, N37q, e37⟩ := hQ37
                have N37 := Fr.app N36 N37q
                refine go (fun _ k => st37.trans k) ?_
                show Run _ _ _ _ _ _ _ T37 (mkF m 277 #[.val (.int p0), .val (.int p1), .val (.int p2), .val (.int p3), .val (.int p4), .val (.int w5), .val (.int w6), .val (.int z1), .val (.int z2), .val (.int (1 : Int32)), .val (.int (2 : Int32)), .val (.ref r25), .val (.ref r26), .val (.int w13), .val (.int z27), .val (.int (1 : Int32)), .val (.ref b32), .val (.ref b34), .val (.int (0 : Int32))] [(.int (0 : Int32))])
                refine go (T' := T37) (f' := (mkF m 279 #[.val (.int p0), .val (.int p1), .val (.int p2), .val (.int p3), .val (.int p4), .val (.int w5), .val (.int w6), .val (.int z1), .val (.int z2), .val (.int (1 : Int32)), .val (.int (2 : Int32)), .val (.ref r25), .val (.ref r26), .val (.int w13), .val (.int z27), .val (.int (1 : Int32)), .val (.ref b32), .val (.ref b34), .val (.int (0 : Int32))] [(.int (0 : Int32)), (.int (0 : Int32))])) (by intro t k; exact XS.iload X37.here hx rfl (hb hby at_277) rfl k) ?_
                refine go (T' := T37) (f' := (mkF m 282 #[.val (.int p0), .val (.int p1), .val (.int p2), .val (.int p3), .val (.int p4), .val (.int w5), .val (.int w6), .val (.int z1), .val (.int z2), .val (.int (1 : Int32)), .val (.int (2 : Int32)), .val (.ref r25), .val (.ref r26), .val (.int w13), .val (.int z27), .val (.int (1 : Int32)), .val (.ref b32), .val (.ref b34), .val (.int (0 : Int32))] [])) (by intro t k; exact XS.icmpNo X37.here hx rfl (hb hby at_279) rfl (teq ((rfl : _) : (0 : Int32) = (0 : Int32))).2 k) ?_
                refine go (T' := T37) (f' := (mkF m 283 #[.val (.int p0), .val (.int p1), .val (.int p2), .val (.int p3), .val (.int p4), .val (.int w5), .val (.int w6), .val (.int z1), .val (.int z2), .val (.int (1 : Int32)), .val (.int (2 : Int32)), .val (.ref r25), .val (.ref r26), .val (.int w13), .val (.int z27), .val (.int (1 : Int32)), .val (.ref b32), .val (.ref b34), .val (.int (0 : Int32))] [(.int (1 : Int32))])) (by intro t k; exact XS.iconst X37.here hx rfl (hb hby at_282) k) ?_
                refine go (T' := T37) (f' := (mkF m 287 #[.val (.int p0), .val (.int p1), .val (.int p2), .val (.int p3), .val (.int p4), .val (.int w5), .val (.int w6), .val (.int z1), .val (.int z2), .val (.int (1 : Int32)), .val (.int (2 : Int32)), .val (.ref r25), .val (.ref r26), .val (.int w13), .val (.int z27), .val (.int (1 : Int32)), .val (.ref b32), .val (.ref b34), .val (.int (0 : Int32))] [(.int (1 : Int32))])) (by intro t k; exact XS.goto X37.here hx rfl (pc0 := 283) (pc' := 287) rfl (hb hby at_283) (by decide) (by decide) k) ?_
                refine retZ X37 hx (t := .boolean) Bd.returns (by simp) (hb hby at_287) hlk (by decide) (by decide) ?_
                show Q0 Z p0 p1 p2 p3 p4 cs h0 n0 _ T37.heap _
                rw [e37]
                have hv' : (nar .boolean (1 : Int32)) = (1 : Int32) := by
                  rfl
                have hv : (some (.int (nar .boolean (1 : Int32))) : Option Value) = some (.int (1 : Int32)) := congrArg (fun z => (some (.int z) : Option Value)) hv'
                exact ⟨hv, N37⟩
              show Run _ _ _ _ _ _ _ T35 (mkF m 221 #[.val (.int p0), .val (.int p1), .val (.int p2), .val (.int p3), .val (.int p4), .val (.int w5), .val (.int w6), .val (.int z1), .val (.int z2), .val (.int (1 : Int32)), .val (.int (2 : Int32)), .val (.ref r25), .val (.ref r26), .val (.int w13), .val (.int z27), .val (.int (1 : Int32)), .val (.ref b32), .val (.ref b34), .unset] [(.int z27), (.int w13)])
              by_cases hc221 : w13 = z27
              · refine go (T' := T35) (f' := (mkF m 224 #[.val (.int p0), .val (.int p1), .val (.int p2), .val (.int p3), .val (.int p4), .val (.int w5), .val (.int w6), .val (.int z1), .val (.int z2), .val (.int (1 : Int32)), .val (.int (2 : Int32)), .val (.ref r25), .val (.ref r26), .val (.int w13), .val (.int z27), .val (.int (1 : Int32)), .val (.ref b32), .val (.ref b34), .unset] [])) (by intro t k; exact XS.icmpNo X35.here hx rfl (hb hby at_221) rfl (teq hc221).2 k) ?_
                refine go (T' := T35) (f' := (mkF m 226 #[.val (.int p0), .val (.int p1), .val (.int p2), .val (.int p3), .val (.int p4), .val (.int w5), .val (.int w6), .val (.int z1), .val (.int z2), .val (.int (1 : Int32)), .val (.int (2 : Int32)), .val (.ref r25), .val (.ref r26), .val (.int w13), .val (.int z27), .val (.int (1 : Int32)), .val (.ref b32), .val (.ref b34), .unset] [(.int (1 : Int32))])) (by intro t k; exact XS.iload X35.here hx rfl (hb hby at_224) rfl k) ?_
                refine go (T' := T35) (f' := (mkF m 228 #[.val (.int p0), .val (.int p1), .val (.int p2), .val (.int p3), .val (.int p4), .val (.int w5), .val (.int w6), .val (.int z1), .val (.int z2), .val (.int (1 : Int32)), .val (.int (2 : Int32)), .val (.ref r25), .val (.ref r26), .val (.int w13), .val (.int z27), .val (.int (1 : Int32)), .val (.ref b32), .val (.ref b34), .unset] [(.int (2 : Int32)), (.int (1 : Int32))])) (by intro t k; exact XS.iload X35.here hx rfl (hb hby at_226) rfl k) ?_
                refine go (T' := T35) (f' := (mkF m 255 #[.val (.int p0), .val (.int p1), .val (.int p2), .val (.int p3), .val (.int p4), .val (.int w5), .val (.int w6), .val (.int z1), .val (.int z2), .val (.int (1 : Int32)), .val (.int (2 : Int32)), .val (.ref r25), .val (.ref r26), .val (.int w13), .val (.int z27), .val (.int (1 : Int32)), .val (.ref b32), .val (.ref b34), .unset] [])) (by intro t k; exact XS.icmpYes X35.here hx rfl (pc0 := 228) (pc' := 255) rfl (hb hby at_228) rfl (feq (by decide : ¬ ((1 : Int32) = (2 : Int32)))).2 (by decide) (by decide) k) ?_
                refine go (T' := T35) (f' := (mkF m 256 #[.val (.int p0), .val (.int p1), .val (.int p2), .val (.int p3), .val (.int p4), .val (.int w5), .val (.int w6), .val (.int z1), .val (.int z2), .val (.int (1 : Int32)), .val (.int (2 : Int32)), .val (.ref r25), .val (.ref r26), .val (.int w13), .val (.int z27), .val (.int (1 : Int32)), .val (.ref b32), .val (.ref b34), .unset] [(.int (0 : Int32))])) (by intro t k; exact XS.iconst X35.here hx rfl (hb hby at_255) k) ?_
                exact J221
              · refine go (T' := T35) (f' := (mkF m 255 #[.val (.int p0), .val (.int p1), .val (.int p2), .val (.int p3), .val (.int p4), .val (.int w5), .val (.int w6), .val (.int z1), .val (.int z2), .val (.int (1 : Int32)), .val (.int (2 : Int32)), .val (.ref r25), .val (.ref r26), .val (.int w13), .val (.int z27), .val (.int (1 : Int32)), .val (.ref b32), .val (.ref b34), .unset] [])) (by intro t k; exact XS.icmpYes X35.here hx rfl (pc0 := 221) (pc' := 255) rfl (hb hby at_221) rfl (feq hc221).2 (by decide) (by decide) k) ?_
                refine go (T' := T35) (f' := (mkF m 256 #[.val (.int p0), .val (.int p1), .val (.int p2), .val (.int p3), .val (.int p4), .val (.int w5), .val (.int w6), .val (.int z1), .val (.int z2), .val (.int (1 : Int32)), .val (.int (2 : Int32)), .val (.ref r25), .val (.ref r26), .val (.int w13), .val (.int z27), .val (.int (1 : Int32)), .val (.ref b32), .val (.ref b34), .unset] [(.int (0 : Int32))])) (by intro t k; exact XS.iconst X35.here hx rfl (hb hby at_255) k) ?_
                exact J221
            · subst ez
              show Run _ _ _ _ _ _ _ T26 (mkF m 135 #[.val (.int p0), .val (.int p1), .val (.int p2), .val (.int p3), .val (.int p4), .val (.int w5), .val (.int w6), .val (.int z1), .val (.int z2), .val (.int (1 : Int32)), .val (.int (2 : Int32)), .val (.ref r25), .val (.ref r26), .val (.int w13), .val (.int z27), .val (.int (2 : Int32)), .unset, .unset, .unset] [])
              obtain ⟨T38, h38, X38, e38, E38, A38, D38, -, st38⟩ := newO X26 hx hZ hown (hw _ (List.mem_of_getElem? (i := 35) rfl)) (hw _ (List.mem_of_getElem? (i := 36) rfl)) (hw _ (List.mem_of_getElem? (i := 37) rfl)) rfl (g := (mkF m 135 #[.val (.int p0), .val (.int p1), .val (.int p2), .val (.int p3), .val (.int p4), .val (.int w5), .val (.int w6), .val (.int z1), .val (.int z2), .val (.int (1 : Int32)), .val (.int (2 : Int32)), .val (.ref r25), .val (.ref r26), .val (.int w13), .val (.int z27), .val (.int (2 : Int32)), .unset, .unset, .unset] [])) rfl (hb hby at_135) (by decide) (by decide)
              obtain ⟨b38, g38⟩ : ∃ z, z = T26.heap.size := ⟨_, rfl⟩
              rw [← g38] at A38 D38 st38
              have ne_r25_b38 : r25 ≠ b38 := Nat.ne_of_lt (Nat.lt_of_lt_of_eq E26_r25.lt g38.symm)
              have ne_r26_b38 : r26 ≠ b38 := Nat.ne_of_lt (Nat.lt_of_lt_of_eq E26.lt g38.symm)
              have ne_sb25_b38 : sb25 ≠ b38 := Nat.ne_of_lt (Nat.lt_of_lt_of_eq A26_sb25.lt g38.symm)
              have ne_sb26_b38 : sb26 ≠ b38 := Nat.ne_of_lt (Nat.lt_of_lt_of_eq Ab26.lt g38.symm)
              have ge_b38 : n0 ≤ b38 := Nat.le_trans Z26 (Nat.le_of_eq g38.symm)
              have K38 : Keep T26.heap h38 [] := (Keep.refl _ _).ext E38
              have E38_r25 := Exa.keep E26_r25 K38
              have E38_r26 := Exa.keep E26 K38
              have F38_r25_coder := Fld.keep F26_r25_coder K38 nin0
              have F38_r25_value := Fld.keep F26_r25_value K38 nin0
              have F38_r26_coder := Fld.keep Fc26 K38 nin0
              have F38_r26_value := Fld.keep Fv26 K38 nin0
              have A38_sb25 := Ary.keep A26_sb25 K38 nin0
              have A38_sb26 := Ary.keep Ab26 K38 nin0
              have O38 : Old Z n0 h38 := O26.keep K38 all0
              have Z38 : n0 ≤ h38.size := Nat.le_trans Z26 K38.1
              have F38_b38_name : Fld Z h38 b38 "com/example/backchain/backchain/model/Predicate" "name" "Ljava/lang/String;" .null := D38 (Or.inr (hw _ (List.mem_of_getElem? (i := 48) rfl))) (ty := (.object "java/lang/String")) (by decide)
              have F38_b38_arity : Fld Z h38 b38 "com/example/backchain/backchain/model/Predicate" "arity" "I" (.int (0 : Int32)) := D38 (Or.inr (hw _ (List.mem_of_getElem? (i := 50) rfl))) (ty := .int) (by decide)
              refine go st38 ?_
              show Run _ _ _ _ _ _ _ T38 (mkF m 138 #[.val (.int p0), .val (.int p1), .val (.int p2), .val (.int p3), .val (.int p4), .val (.int w5), .val (.int w6), .val (.int z1), .val (.int z2), .val (.int (1 : Int32)), .val (.int (2 : Int32)), .val (.ref r25), .val (.ref r26), .val (.int w13), .val (.int z27), .val (.int (2 : Int32)), .unset, .unset, .unset] [(.ref b38)])
              refine go (T' := T38) (f' := (mkF m 139 #[.val (.int p0), .val (.int p1), .val (.int p2), .val (.int p3), .val (.int p4), .val (.int w5), .val (.int w6), .val (.int z1), .val (.int z2), .val (.int (1 : Int32)), .val (.int (2 : Int32)), .val (.ref r25), .val (.ref r26), .val (.int w13), .val (.int z27), .val (.int (2 : Int32)), .unset, .unset, .unset] [(.ref b38), (.ref b38)])) (by intro t k; exact XS.dup X38.here hx rfl (hb hby at_138) rfl rfl k) ?_
              refine go (T' := T38) (f' := (mkF m 141 #[.val (.int p0), .val (.int p1), .val (.int p2), .val (.int p3), .val (.int p4), .val (.int w5), .val (.int w6), .val (.int z1), .val (.int z2), .val (.int (1 : Int32)), .val (.int (2 : Int32)), .val (.ref r25), .val (.ref r26), .val (.int w13), .val (.int z27), .val (.int (2 : Int32)), .unset, .unset, .unset] [(.ref r25), (.ref b38), (.ref b38)])) (by intro t k; exact XS.aload X38.here hx rfl (hb hby at_139) rfl rfl k) ?_
              refine go (T' := T38) (f' := (mkF m 143 #[.val (.int p0), .val (.int p1), .val (.int p2), .val (.int p3), .val (.int p4), .val (.int w5), .val (.int w6), .val (.int z1), .val (.int z2), .val (.int (1 : Int32)), .val (.int (2 : Int32)), .val (.ref r25), .val (.ref r26), .val (.int w13), .val (.int z27), .val (.int (2 : Int32)), .unset, .unset, .unset] [(.int w13), (.ref r25), (.ref b38), (.ref b38)])) (by intro t k; exact XS.iload X38.here hx rfl (hb hby at_141) rfl k) ?_
              obtain ⟨_, _, ⟨T39, Lz39, kz39, nz39⟩, -, X39, ⟨Lc39, hQ39, lz39, yz39, zz39⟩, st39⟩ := X38.specialBack hx (y := (⟨"com/example/backchain/backchain/model/Predicate", "<init>", "(Ljava/lang/String;I)V"⟩ : MethodName)) rfl hown (mvT hZ (hw _ (List.mem_of_getElem? (i := 38) rfl))) (mvT hZ (hw _ (List.mem_of_getElem? (i := 39) rfl))) (mvT hZ (hw _ (List.mem_of_getElem? (i := 40) rfl))) (by decide) (backOf (W := 1) (rm8 l Z aw hw [] b38 r25 w13 sb25 [(.int (nar .byte (((nar .char w5)).toInt8.toInt32)))] (1 : Int32) h38 n0 Z38 A38 F38_b38_name F38_b38_arity ge_b38 E38_r25 F38_r25_value A38_sb25 (Ne.symm ne_r25_b38) (Ne.symm ne_sb25_b38) rfl (by decide) ha13) hZ (hw _ (List.mem_of_getElem? (i := 40) rfl)) (hw _ (List.mem_of_getElem? (i := 37) rfl)) (by decide) (by decide)) (g := (mkF m 143 #[.val (.int p0), .val (.int p1), .val (.int p2), .val (.int p3), .val (.int p4), .val (.int w5), .val (.int w6), .val (.int z1), .val (.int z2), .val (.int (1 : Int32)), .val (.int (2 : Int32)), .val (.ref r25), .val (.ref r26), .val (.int w13), .val (.int z27), .val (.int (2 : Int32)), .unset, .unset, .unset] [(.int w13), (.ref r25), (.ref b38), (.ref b38)])) rfl (by rw [hml]; rfl) (Steps.refl _) (a := b38) (argsL := [(.ref r25), (.int w13)]) (rest := [(.ref b38)]) (lenOf pd_28Ljava2flang2fString3bI29V rfl) rfl (by show 2 * 0 + _ ≤ _; exact Nat.le_of_eq rfl) (hb hby at_143) (fun _ _ => ⟨rfl, e38, (by decide : 7 + 0 ≤ _), (by decide : 16 + 0 ≤ _)⟩)
              dsimp only [Pt.U, Pt.locs, Pt.cells, Pt.slots] at X39 lz39 yz39 zz39 st39 hQ39
              subst lz39 yz39 zz39
              obtain ⟨rfl, N39q, K39, Fn39, Fa39⟩ := hQ39
              have E39_r25 := Exa.keep E38_r25 K39
              have E39_r26 := Exa.keep E38_r26 K39
              have E39_b38 := Exa.keep A38 K39
              have F39_r25_coder := Fld.keep F38_r25_coder K39 (ninS ne_r25_b38 nin0)
              have F39_r25_value := Fld.keep F38_r25_value K39 (ninS ne_r25_b38 nin0)
              have F39_r26_coder := Fld.keep F38_r26_coder K39 (ninS ne_r26_b38 nin0)
              have F39_r26_value := Fld.keep F38_r26_value K39 (ninS ne_r26_b38 nin0)
              have A39_sb25 := Ary.keep A38_sb25 K39 (ninS ne_sb25_b38 nin0)
              have A39_sb26 := Ary.keep A38_sb26 K39 (ninS ne_sb26_b38 nin0)
              have O39 : Old Z n0 T39.heap := O38.keep K39 (allS ge_b38 all0)
              have Z39 : n0 ≤ T39.heap.size := Nat.le_trans Z38 K39.1
              have N39 := Fr.app N26 N39q
              refine go (fun _ k => st39.trans k) ?_
              show Run _ _ _ _ _ _ _ T39 (mkF m 146 #[.val (.int p0), .val (.int p1), .val (.int p2), .val (.int p3), .val (.int p4), .val (.int w5), .val (.int w6), .val (.int z1), .val (.int z2), .val (.int (1 : Int32)), .val (.int (2 : Int32)), .val (.ref r25), .val (.ref r26), .val (.int w13), .val (.int z27), .val (.int (2 : Int32)), .unset, .unset, .unset] [(.ref b38)])
              refine go (T' := T39) (f' := (mkF m 148 #[.val (.int p0), .val (.int p1), .val (.int p2), .val (.int p3), .val (.int p4), .val (.int w5), .val (.int w6), .val (.int z1), .val (.int z2), .val (.int (1 : Int32)), .val (.int (2 : Int32)), .val (.ref r25), .val (.ref r26), .val (.int w13), .val (.int z27), .val (.int (2 : Int32)), .val (.ref b38), .unset, .unset] [])) (by intro t k; exact XS.astore X39.here hx rfl (hb hby at_146) rfl rfl (l' := #[.val (.int p0), .val (.int p1), .val (.int p2), .val (.int p3), .val (.int p4), .val (.int w5), .val (.int w6), .val (.int z1), .val (.int z2), .val (.int (1 : Int32)), .val (.int (2 : Int32)), .val (.ref r25), .val (.ref r26), .val (.int w13), .val (.int z27), .val (.int (2 : Int32)), .val (.ref b38), .unset, .unset]) rfl k) ?_
              refine go (T' := T39) (f' := (mkF m 150 #[.val (.int p0), .val (.int p1), .val (.int p2), .val (.int p3), .val (.int p4), .val (.int w5), .val (.int w6), .val (.int z1), .val (.int z2), .val (.int (1 : Int32)), .val (.int (2 : Int32)), .val (.ref r25), .val (.ref r26), .val (.int w13), .val (.int z27), .val (.int (2 : Int32)), .val (.ref b38), .unset, .unset] [(.int (2 : Int32))])) (by intro t k; exact XS.iload X39.here hx rfl (hb hby at_148) rfl k) ?_
              refine go (T' := T39) (f' := (mkF m 161 #[.val (.int p0), .val (.int p1), .val (.int p2), .val (.int p3), .val (.int p4), .val (.int w5), .val (.int w6), .val (.int z1), .val (.int z2), .val (.int (1 : Int32)), .val (.int (2 : Int32)), .val (.ref r25), .val (.ref r26), .val (.int w13), .val (.int z27), .val (.int (2 : Int32)), .val (.ref b38), .unset, .unset] [])) (by intro t k; exact XS.ifYes X39.here hx rfl (pc0 := 150) (pc' := 161) rfl (hb hby at_150) rfl ((if0 _ _).trans (feq (by decide : ¬ ((2 : Int32) = (0 : Int32)))).2) (by decide) (by decide) k) ?_
              refine go (T' := T39) (f' := (mkF m 163 #[.val (.int p0), .val (.int p1), .val (.int p2), .val (.int p3), .val (.int p4), .val (.int w5), .val (.int w6), .val (.int z1), .val (.int z2), .val (.int (1 : Int32)), .val (.int (2 : Int32)), .val (.ref r25), .val (.ref r26), .val (.int w13), .val (.int z27), .val (.int (2 : Int32)), .val (.ref b38), .unset, .unset] [(.int (2 : Int32))])) (by intro t k; exact XS.iload X39.here hx rfl (hb hby at_161) rfl k) ?_
              refine go (T' := T39) (f' := (mkF m 164 #[.val (.int p0), .val (.int p1), .val (.int p2), .val (.int p3), .val (.int p4), .val (.int w5), .val (.int w6), .val (.int z1), .val (.int z2), .val (.int (1 : Int32)), .val (.int (2 : Int32)), .val (.ref r25), .val (.ref r26), .val (.int w13), .val (.int z27), .val (.int (2 : Int32)), .val (.ref b38), .unset, .unset] [(.int (2 : Int32)), (.int (2 : Int32))])) (by intro t k; exact XS.iconst X39.here hx rfl (hb hby at_163) k) ?_
              refine go (T' := T39) (f' := (mkF m 167 #[.val (.int p0), .val (.int p1), .val (.int p2), .val (.int p3), .val (.int p4), .val (.int w5), .val (.int w6), .val (.int z1), .val (.int z2), .val (.int (1 : Int32)), .val (.int (2 : Int32)), .val (.ref r25), .val (.ref r26), .val (.int w13), .val (.int z27), .val (.int (2 : Int32)), .val (.ref b38), .unset, .unset] [])) (by intro t k; exact XS.icmpNo X39.here hx rfl (hb hby at_164) rfl (teq (rfl : (2 : Int32) = (2 : Int32))).2 k) ?_
              refine go (T' := T39) (f' := (mkF m 169 #[.val (.int p0), .val (.int p1), .val (.int p2), .val (.int p3), .val (.int p4), .val (.int w5), .val (.int w6), .val (.int z1), .val (.int z2), .val (.int (1 : Int32)), .val (.int (2 : Int32)), .val (.ref r25), .val (.ref r26), .val (.int w13), .val (.int z27), .val (.int (2 : Int32)), .val (.ref b38), .unset, .unset] [(.ref b38)])) (by intro t k; exact XS.aload X39.here hx rfl (hb hby at_167) rfl rfl k) ?_
              refine go (T' := T39) (f' := (mkF m 171 #[.val (.int p0), .val (.int p1), .val (.int p2), .val (.int p3), .val (.int p4), .val (.int w5), .val (.int w6), .val (.int z1), .val (.int z2), .val (.int (1 : Int32)), .val (.int (2 : Int32)), .val (.ref r25), .val (.ref r26), .val (.int w13), .val (.int z27), .val (.int (2 : Int32)), .val (.ref b38), .unset, .unset] [(.ref r25), (.ref b38)])) (by intro t k; exact XS.aload X39.here hx rfl (hb hby at_169) rfl rfl k) ?_
              obtain ⟨cq40, kq40, q40a, q40b, q40c⟩ := isOf hZ rfl E39_b38
              obtain ⟨_, _, ⟨T40, Lz40, kz40, nz40⟩, -, X40, ⟨Lc40, hQ40, lz40, yz40, zz40⟩, st40⟩ := X39.virtualBack hx (y := (⟨"com/example/backchain/backchain/model/Predicate", "equals", "(Ljava/lang/Object;)Z"⟩ : MethodName)) (z := (⟨"com/example/backchain/backchain/model/Predicate", "equals", "(Ljava/lang/Object;)Z"⟩ : MethodName)) hown (mvT hZ (hw _ (List.mem_of_getElem? (i := 51) rfl))) (mvT hZ (hw _ (List.mem_of_getElem? (i := 52) rfl))) (notFace_of_selects (args := #[]) (mvT hZ (hw _ (List.mem_of_getElem? (i := 54) rfl)))) (mvT hZ (hw _ (List.mem_of_getElem? (i := 54) rfl))) (mvT hZ (hw _ (List.mem_of_getElem? (i := 53) rfl))) (by decide) (backOf (W := 0) (rm10t l Z aw hw [] b38 r25  T39.heap n0 Z39 E39_r25 (Ne.symm ne_r25_b38)) hZ (hw _ (List.mem_of_getElem? (i := 55) rfl)) (hw _ (List.mem_of_getElem? (i := 37) rfl)) (by decide) (by decide)) q40a q40c (g := (mkF m 171 #[.val (.int p0), .val (.int p1), .val (.int p2), .val (.int p3), .val (.int p4), .val (.int w5), .val (.int w6), .val (.int z1), .val (.int z2), .val (.int (1 : Int32)), .val (.int (2 : Int32)), .val (.ref r25), .val (.ref r26), .val (.int w13), .val (.int z27), .val (.int (2 : Int32)), .val (.ref b38), .unset, .unset] [(.ref r25), (.ref b38)])) rfl (by rw [hml]; rfl) (Steps.refl _) (argsL := [(.ref r25)]) (rest := []) (lenOf pd_28Ljava2flang2fObject3b29Z rfl) rfl (by show 2 * 0 + _ ≤ _; exact Nat.le_of_eq rfl) (hb hby at_171) (fun _ _ => ⟨rfl, rfl, (by decide : 7 + 0 ≤ _), (by decide : 16 + 0 ≤ _)⟩)
              dsimp only [Pt.U, Pt.locs, Pt.cells, Pt.slots] at X40 lz40 yz40 zz40 st40 hQ40
              subst lz40 yz40 zz40
              obtain ⟨rfl, N40q, e40⟩ := hQ40
              have N40 := Fr.app N39 N40q
              refine go (fun _ k => st40.trans k) ?_
              show Run _ _ _ _ _ _ _ T40 (mkF m 174 #[.val (.int p0), .val (.int p1), .val (.int p2), .val (.int p3), .val (.int p4), .val (.int w5), .val (.int w6), .val (.int z1), .val (.int z2), .val (.int (1 : Int32)), .val (.int (2 : Int32)), .val (.ref r25), .val (.ref r26), .val (.int w13), .val (.int z27), .val (.int (2 : Int32)), .val (.ref b38), .unset, .unset] [(.int (0 : Int32))])
              refine go (T' := T40) (f' := (mkF m 177 #[.val (.int p0), .val (.int p1), .val (.int p2), .val (.int p3), .val (.int p4), .val (.int w5), .val (.int w6), .val (.int z1), .val (.int z2), .val (.int (1 : Int32)), .val (.int (2 : Int32)), .val (.ref r25), .val (.ref r26), .val (.int w13), .val (.int z27), .val (.int (2 : Int32)), .val (.ref b38), .unset, .unset] [])) (by intro t k; exact XS.ifNo X40.here hx rfl (hb hby at_174) rfl ((if0 _ _).trans (teq (rfl : (0 : Int32) = (0 : Int32))).2) k) ?_
              refine go (T' := T40) (f' := (mkF m 178 #[.val (.int p0), .val (.int p1), .val (.int p2), .val (.int p3), .val (.int p4), .val (.int w5), .val (.int w6), .val (.int z1), .val (.int z2), .val (.int (1 : Int32)), .val (.int (2 : Int32)), .val (.ref r25), .val (.ref r26), .val (.int w13), .val (.int z27), .val (.int (2 : Int32)), .val (.ref b38), .unset, .unset] [(.int (1 : Int32))])) (by intro t k; exact XS.iconst X40.here hx rfl (hb hby at_177) k) ?_
              refine go (T' := T40) (f' := (mkF m 182 #[.val (.int p0), .val (.int p1), .val (.int p2), .val (.int p3), .val (.int p4), .val (.int w5), .val (.int w6), .val (.int z1), .val (.int z2), .val (.int (1 : Int32)), .val (.int (2 : Int32)), .val (.ref r25), .val (.ref r26), .val (.int w13), .val (.int z27), .val (.int (2 : Int32)), .val (.ref b38), .unset, .unset] [(.int (1 : Int32))])) (by intro t k; exact XS.goto X40.here hx rfl (pc0 := 178) (pc' := 182) rfl (hb hby at_178) (by decide) (by decide) k) ?_
              refine retZ X40 hx (t := .boolean) Bd.returns (by simp) (hb hby at_182) hlk (by decide) (by decide) ?_
              show Q0 Z p0 p1 p2 p3 p4 cs h0 n0 _ T40.heap _
              rw [e40]
              have hv' : (nar .boolean (1 : Int32)) = (1 : Int32) := by
                rfl
              have hv : (some (.int (nar .boolean (1 : Int32))) : Option Value) = some (.int (1 : Int32)) := congrArg (fun z => (some (.int z) : Option Value)) hv'
              exact ⟨hv, N40⟩
            · subst ez
              show Run _ _ _ _ _ _ _ T26 (mkF m 135 #[.val (.int p0), .val (.int p1), .val (.int p2), .val (.int p3), .val (.int p4), .val (.int w5), .val (.int w6), .val (.int z1), .val (.int z2), .val (.int (1 : Int32)), .val (.int (2 : Int32)), .val (.ref r25), .val (.ref r26), .val (.int w13), .val (.int z27), .val (.int (3 : Int32)), .unset, .unset, .unset] [])
              obtain ⟨T41, h41, X41, e41, E41, A41, D41, -, st41⟩ := newO X26 hx hZ hown (hw _ (List.mem_of_getElem? (i := 35) rfl)) (hw _ (List.mem_of_getElem? (i := 36) rfl)) (hw _ (List.mem_of_getElem? (i := 37) rfl)) rfl (g := (mkF m 135 #[.val (.int p0), .val (.int p1), .val (.int p2), .val (.int p3), .val (.int p4), .val (.int w5), .val (.int w6), .val (.int z1), .val (.int z2), .val (.int (1 : Int32)), .val (.int (2 : Int32)), .val (.ref r25), .val (.ref r26), .val (.int w13), .val (.int z27), .val (.int (3 : Int32)), .unset, .unset, .unset] [])) rfl (hb hby at_135) (by decide) (by decide)
              obtain ⟨b41, g41⟩ : ∃ z, z = T26.heap.size := ⟨_, rfl⟩
              rw [← g41] at A41 D41 st41
              have ne_r25_b41 : r25 ≠ b41 := Nat.ne_of_lt (Nat.lt_of_lt_of_eq E26_r25.lt g41.symm)
              have ne_r26_b41 : r26 ≠ b41 := Nat.ne_of_lt (Nat.lt_of_lt_of_eq E26.lt g41.symm)
              have ne_sb25_b41 : sb25 ≠ b41 := Nat.ne_of_lt (Nat.lt_of_lt_of_eq A26_sb25.lt g41.symm)
              have ne_sb26_b41 : sb26 ≠ b41 := Nat.ne_of_lt (Nat.lt_of_lt_of_eq Ab26.lt g41.symm)
              have ge_b41 : n0 ≤ b41 := Nat.le_trans Z26 (Nat.le_of_eq g41.symm)
              have K41 : Keep T26.heap h41 [] := (Keep.refl _ _).ext E41
              have E41_r25 := Exa.keep E26_r25 K41
              have E41_r26 := Exa.keep E26 K41
              have F41_r25_coder := Fld.keep F26_r25_coder K41 nin0
              have F41_r25_value := Fld.keep F26_r25_value K41 nin0
              have F41_r26_coder := Fld.keep Fc26 K41 nin0
              have F41_r26_value := Fld.keep Fv26 K41 nin0
              have A41_sb25 := Ary.keep A26_sb25 K41 nin0
              have A41_sb26 := Ary.keep Ab26 K41 nin0
              have O41 : Old Z n0 h41 := O26.keep K41 all0
              have Z41 : n0 ≤ h41.size := Nat.le_trans Z26 K41.1
              have F41_b41_name : Fld Z h41 b41 "com/example/backchain/backchain/model/Predicate" "name" "Ljava/lang/String;" .null := D41 (Or.inr (hw _ (List.mem_of_getElem? (i := 48) rfl))) (ty := (.object "java/lang/String")) (by decide)
              have F41_b41_arity : Fld Z h41 b41 "com/example/backchain/backchain/model/Predicate" "arity" "I" (.int (0 : Int32)) := D41 (Or.inr (hw _ (List.mem_of_getElem? (i := 50) rfl))) (ty := .int) (by decide)
              refine go st41 ?_
              show Run _ _ _ _ _ _ _ T41 (mkF m 138 #[.val (.int p0), .val (.int p1), .val (.int p2), .val (.int p3), .val (.int p4), .val (.int w5), .val (.int w6), .val (.int z1), .val (.int z2), .val (.int (1 : Int32)), .val (.int (2 : Int32)), .val (.ref r25), .val (.ref r26), .val (.int w13), .val (.int z27), .val (.int (3 : Int32)), .unset, .unset, .unset] [(.ref b41)])
              refine go (T' := T41) (f' := (mkF m 139 #[.val (.int p0), .val (.int p1), .val (.int p2), .val (.int p3), .val (.int p4), .val (.int w5), .val (.int w6), .val (.int z1), .val (.int z2), .val (.int (1 : Int32)), .val (.int (2 : Int32)), .val (.ref r25), .val (.ref r26), .val (.int w13), .val (.int z27), .val (.int (3 : Int32)), .unset, .unset, .unset] [(.ref b41), (.ref b41)])) (by intro t k; exact XS.dup X41.here hx rfl (hb hby at_138) rfl rfl k) ?_
              refine go (T' := T41) (f' := (mkF m 141 #[.val (.int p0), .val (.int p1), .val (.int p2), .val (.int p3), .val (.int p4), .val (.int w5), .val (.int w6), .val (.int z1), .val (.int z2), .val (.int (1 : Int32)), .val (.int (2 : Int32)), .val (.ref r25), .val (.ref r26), .val (.int w13), .val (.int z27), .val (.int (3 : Int32)), .unset, .unset, .unset] [(.ref r25), (.ref b41), (.ref b41)])) (by intro t k; exact XS.aload X41.here hx rfl (hb hby at_139) rfl rfl k) ?_
              refine go (T' := T41) (f' := (mkF m 143 #[.val (.int p0), .val (.int p1), .val (.int p2), .val (.int p3), .val (.int p4), .val (.int w5), .val (.int w6), .val (.int z1), .val (.int z2), .val (.int (1 : Int32)), .val (.int (2 : Int32)), .val (.ref r25), .val (.ref r26), .val (.int w13), .val (.int z27), .val (.int (3 : Int32)), .unset, .unset, .unset] [(.int w13), (.ref r25), (.ref b41), (.ref b41)])) (by intro t k; exact XS.iload X41.here hx rfl (hb hby at_141) rfl k) ?_
              obtain ⟨_, _, ⟨T42, Lz42, kz42, nz42⟩, -, X42, ⟨Lc42, hQ42, lz42, yz42, zz42⟩, st42⟩ := X41.specialBack hx (y := (⟨"com/example/backchain/backchain/model/Predicate", "<init>", "(Ljava/lang/String;I)V"⟩ : MethodName)) rfl hown (mvT hZ (hw _ (List.mem_of_getElem? (i := 38) rfl))) (mvT hZ (hw _ (List.mem_of_getElem? (i := 39) rfl))) (mvT hZ (hw _ (List.mem_of_getElem? (i := 40) rfl))) (by decide) (backOf (W := 1) (rm8 l Z aw hw [] b41 r25 w13 sb25 [(.int (nar .byte (((nar .char w5)).toInt8.toInt32)))] (1 : Int32) h41 n0 Z41 A41 F41_b41_name F41_b41_arity ge_b41 E41_r25 F41_r25_value A41_sb25 (Ne.symm ne_r25_b41) (Ne.symm ne_sb25_b41) rfl (by decide) ha13) hZ (hw _ (List.mem_of_getElem? (i := 40) rfl)) (hw _ (List.mem_of_getElem? (i := 37) rfl)) (by decide) (by decide)) (g := (mkF m 143 #[.val (.int p0), .val (.int p1), .val (.int p2), .val (.int p3), .val (.int p4), .val (.int w5), .val (.int w6), .val (.int z1), .val (.int z2), .val (.int (1 : Int32)), .val (.int (2 : Int32)), .val (.ref r25), .val (.ref r26), .val (.int w13), .val (.int z27), .val (.int (3 : Int32)), .unset, .unset, .unset] [(.int w13), (.ref r25), (.ref b41), (.ref b41)])) rfl (by rw [hml]; rfl) (Steps.refl _) (a := b41) (argsL := [(.ref r25), (.int w13)]) (rest := [(.ref b41)]) (lenOf pd_28Ljava2flang2fString3bI29V rfl) rfl (by show 2 * 0 + _ ≤ _; exact Nat.le_of_eq rfl) (hb hby at_143) (fun _ _ => ⟨rfl, e41, (by decide : 7 + 0 ≤ _), (by decide : 16 + 0 ≤ _)⟩)
              dsimp only [Pt.U, Pt.locs, Pt.cells, Pt.slots] at X42 lz42 yz42 zz42 st42 hQ42
              subst lz42 yz42 zz42
              obtain ⟨rfl, N42q, K42, Fn42, Fa42⟩ := hQ42
              have E42_r25 := Exa.keep E41_r25 K42
              have E42_r26 := Exa.keep E41_r26 K42
              have E42_b41 := Exa.keep A41 K42
              have F42_r25_coder := Fld.keep F41_r25_coder K42 (ninS ne_r25_b41 nin0)
              have F42_r25_value := Fld.keep F41_r25_value K42 (ninS ne_r25_b41 nin0)
              have F42_r26_coder := Fld.keep F41_r26_coder K42 (ninS ne_r26_b41 nin0)
              have F42_r26_value := Fld.keep F41_r26_value K42 (ninS ne_r26_b41 nin0)
              have A42_sb25 := Ary.keep A41_sb25 K42 (ninS ne_sb25_b41 nin0)
              have A42_sb26 := Ary.keep A41_sb26 K42 (ninS ne_sb26_b41 nin0)
              have O42 : Old Z n0 T42.heap := O41.keep K42 (allS ge_b41 all0)
              have Z42 : n0 ≤ T42.heap.size := Nat.le_trans Z41 K42.1
              have N42 := Fr.app N26 N42q
              refine go (fun _ k => st42.trans k) ?_
              show Run _ _ _ _ _ _ _ T42 (mkF m 146 #[.val (.int p0), .val (.int p1), .val (.int p2), .val (.int p3), .val (.int p4), .val (.int w5), .val (.int w6), .val (.int z1), .val (.int z2), .val (.int (1 : Int32)), .val (.int (2 : Int32)), .val (.ref r25), .val (.ref r26), .val (.int w13), .val (.int z27), .val (.int (3 : Int32)), .unset, .unset, .unset] [(.ref b41)])
              refine go (T' := T42) (f' := (mkF m 148 #[.val (.int p0), .val (.int p1), .val (.int p2), .val (.int p3), .val (.int p4), .val (.int w5), .val (.int w6), .val (.int z1), .val (.int z2), .val (.int (1 : Int32)), .val (.int (2 : Int32)), .val (.ref r25), .val (.ref r26), .val (.int w13), .val (.int z27), .val (.int (3 : Int32)), .val (.ref b41), .unset, .unset] [])) (by intro t k; exact XS.astore X42.here hx rfl (hb hby at_146) rfl rfl (l' := #[.val (.int p0), .val (.int p1), .val (.int p2), .val (.int p3), .val (.int p4), .val (.int w5), .val (.int w6), .val (.int z1), .val (.int z2), .val (.int (1 : Int32)), .val (.int (2 : Int32)), .val (.ref r25), .val (.ref r26), .val (.int w13), .val (.int z27), .val (.int (3 : Int32)), .val (.ref b41), .unset, .unset]) rfl k) ?_
              refine go (T' := T42) (f' := (mkF m 150 #[.val (.int p0), .val (.int p1), .val (.int p2), .val (.int p3), .val (.int p4), .val (.int w5), .val (.int w6), .val (.int z1), .val (.int z2), .val (.int (1 : Int32)), .val (.int (2 : Int32)), .val (.ref r25), .val (.ref r26), .val (.int w13), .val (.int z27), .val (.int (3 : Int32)), .val (.ref b41), .unset, .unset] [(.int (3 : Int32))])) (by intro t k; exact XS.iload X42.here hx rfl (hb hby at_148) rfl k) ?_
              refine go (T' := T42) (f' := (mkF m 161 #[.val (.int p0), .val (.int p1), .val (.int p2), .val (.int p3), .val (.int p4), .val (.int w5), .val (.int w6), .val (.int z1), .val (.int z2), .val (.int (1 : Int32)), .val (.int (2 : Int32)), .val (.ref r25), .val (.ref r26), .val (.int w13), .val (.int z27), .val (.int (3 : Int32)), .val (.ref b41), .unset, .unset] [])) (by intro t k; exact XS.ifYes X42.here hx rfl (pc0 := 150) (pc' := 161) rfl (hb hby at_150) rfl ((if0 _ _).trans (feq (by decide : ¬ ((3 : Int32) = (0 : Int32)))).2) (by decide) (by decide) k) ?_
              refine go (T' := T42) (f' := (mkF m 163 #[.val (.int p0), .val (.int p1), .val (.int p2), .val (.int p3), .val (.int p4), .val (.int w5), .val (.int w6), .val (.int z1), .val (.int z2), .val (.int (1 : Int32)), .val (.int (2 : Int32)), .val (.ref r25), .val (.ref r26), .val (.int w13), .val (.int z27), .val (.int (3 : Int32)), .val (.ref b41), .unset, .unset] [(.int (3 : Int32))])) (by intro t k; exact XS.iload X42.here hx rfl (hb hby at_161) rfl k) ?_
              refine go (T' := T42) (f' := (mkF m 164 #[.val (.int p0), .val (.int p1), .val (.int p2), .val (.int p3), .val (.int p4), .val (.int w5), .val (.int w6), .val (.int z1), .val (.int z2), .val (.int (1 : Int32)), .val (.int (2 : Int32)), .val (.ref r25), .val (.ref r26), .val (.int w13), .val (.int z27), .val (.int (3 : Int32)), .val (.ref b41), .unset, .unset] [(.int (2 : Int32)), (.int (3 : Int32))])) (by intro t k; exact XS.iconst X42.here hx rfl (hb hby at_163) k) ?_
              refine go (T' := T42) (f' := (mkF m 183 #[.val (.int p0), .val (.int p1), .val (.int p2), .val (.int p3), .val (.int p4), .val (.int w5), .val (.int w6), .val (.int z1), .val (.int z2), .val (.int (1 : Int32)), .val (.int (2 : Int32)), .val (.ref r25), .val (.ref r26), .val (.int w13), .val (.int z27), .val (.int (3 : Int32)), .val (.ref b41), .unset, .unset] [])) (by intro t k; exact XS.icmpYes X42.here hx rfl (pc0 := 164) (pc' := 183) rfl (hb hby at_164) rfl (feq (by decide : ¬ ((3 : Int32) = (2 : Int32)))).2 (by decide) (by decide) k) ?_
              refine go (T' := T42) (f' := (mkF m 185 #[.val (.int p0), .val (.int p1), .val (.int p2), .val (.int p3), .val (.int p4), .val (.int w5), .val (.int w6), .val (.int z1), .val (.int z2), .val (.int (1 : Int32)), .val (.int (2 : Int32)), .val (.ref r25), .val (.ref r26), .val (.int w13), .val (.int z27), .val (.int (3 : Int32)), .val (.ref b41), .unset, .unset] [(.int (3 : Int32))])) (by intro t k; exact XS.iload X42.here hx rfl (hb hby at_183) rfl k) ?_
              refine go (T' := T42) (f' := (mkF m 186 #[.val (.int p0), .val (.int p1), .val (.int p2), .val (.int p3), .val (.int p4), .val (.int w5), .val (.int w6), .val (.int z1), .val (.int z2), .val (.int (1 : Int32)), .val (.int (2 : Int32)), .val (.ref r25), .val (.ref r26), .val (.int w13), .val (.int z27), .val (.int (3 : Int32)), .val (.ref b41), .unset, .unset] [(.int (3 : Int32)), (.int (3 : Int32))])) (by intro t k; exact XS.iconst X42.here hx rfl (hb hby at_185) k) ?_
              refine go (T' := T42) (f' := (mkF m 189 #[.val (.int p0), .val (.int p1), .val (.int p2), .val (.int p3), .val (.int p4), .val (.int w5), .val (.int w6), .val (.int z1), .val (.int z2), .val (.int (1 : Int32)), .val (.int (2 : Int32)), .val (.ref r25), .val (.ref r26), .val (.int w13), .val (.int z27), .val (.int (3 : Int32)), .val (.ref b41), .unset, .unset] [])) (by intro t k; exact XS.icmpNo X42.here hx rfl (hb hby at_186) rfl (teq (rfl : (3 : Int32) = (3 : Int32))).2 k) ?_
              refine go (T' := T42) (f' := (mkF m 191 #[.val (.int p0), .val (.int p1), .val (.int p2), .val (.int p3), .val (.int p4), .val (.int w5), .val (.int w6), .val (.int z1), .val (.int z2), .val (.int (1 : Int32)), .val (.int (2 : Int32)), .val (.ref r25), .val (.ref r26), .val (.int w13), .val (.int z27), .val (.int (3 : Int32)), .val (.ref b41), .unset, .unset] [(.ref b41)])) (by intro t k; exact XS.aload X42.here hx rfl (hb hby at_189) rfl rfl k) ?_
              refine go (T' := T42) (f' := (mkF m 192 #[.val (.int p0), .val (.int p1), .val (.int p2), .val (.int p3), .val (.int p4), .val (.int w5), .val (.int w6), .val (.int z1), .val (.int z2), .val (.int (1 : Int32)), .val (.int (2 : Int32)), .val (.ref r25), .val (.ref r26), .val (.int w13), .val (.int z27), .val (.int (3 : Int32)), .val (.ref b41), .unset, .unset] [.null, (.ref b41)])) (by intro t k; exact XS.aconstNull X42.here hx rfl (hb hby at_191) k) ?_
              obtain ⟨cq43, kq43, q43a, q43b, q43c⟩ := isOf hZ rfl E42_b41
              obtain ⟨_, _, ⟨T43, Lz43, kz43, nz43⟩, -, X43, ⟨Lc43, hQ43, lz43, yz43, zz43⟩, st43⟩ := X42.virtualBack hx (y := (⟨"com/example/backchain/backchain/model/Predicate", "equals", "(Ljava/lang/Object;)Z"⟩ : MethodName)) (z := (⟨"com/example/backchain/backchain/model/Predicate", "equals", "(Ljava/lang/Object;)Z"⟩ : MethodName)) hown (mvT hZ (hw _ (List.mem_of_getElem? (i := 51) rfl))) (mvT hZ (hw _ (List.mem_of_getElem? (i := 52) rfl))) (notFace_of_selects (args := #[]) (mvT hZ (hw _ (List.mem_of_getElem? (i := 54) rfl)))) (mvT hZ (hw _ (List.mem_of_getElem? (i := 54) rfl))) (mvT hZ (hw _ (List.mem_of_getElem? (i := 53) rfl))) (by decide) (backOf (W := 0) (rm10z l Z aw hw [] b41  T42.heap n0 Z42 ) hZ (hw _ (List.mem_of_getElem? (i := 55) rfl)) (hw _ (List.mem_of_getElem? (i := 37) rfl)) (by decide) (by decide)) q43a q43c (g := (mkF m 192 #[.val (.int p0), .val (.int p1), .val (.int p2), .val (.int p3), .val (.int p4), .val (.int w5), .val (.int w6), .val (.int z1), .val (.int z2), .val (.int (1 : Int32)), .val (.int (2 : Int32)), .val (.ref r25), .val (.ref r26), .val (.int w13), .val (.int z27), .val (.int (3 : Int32)), .val (.ref b41), .unset, .unset] [.null, (.ref b41)])) rfl (by rw [hml]; rfl) (Steps.refl _) (argsL := [.null]) (rest := []) (lenOf pd_28Ljava2flang2fObject3b29Z rfl) rfl (by show 2 * 0 + _ ≤ _; exact Nat.le_of_eq rfl) (hb hby at_192) (fun _ _ => ⟨rfl, rfl, (by decide : 7 + 0 ≤ _), (by decide : 16 + 0 ≤ _)⟩)
              dsimp only [Pt.U, Pt.locs, Pt.cells, Pt.slots] at X43 lz43 yz43 zz43 st43 hQ43
              subst lz43 yz43 zz43
              obtain ⟨rfl, N43q, e43⟩ := hQ43
              have N43 := Fr.app N42 N43q
              refine go (fun _ k => st43.trans k) ?_
              show Run _ _ _ _ _ _ _ T43 (mkF m 195 #[.val (.int p0), .val (.int p1), .val (.int p2), .val (.int p3), .val (.int p4), .val (.int w5), .val (.int w6), .val (.int z1), .val (.int z2), .val (.int (1 : Int32)), .val (.int (2 : Int32)), .val (.ref r25), .val (.ref r26), .val (.int w13), .val (.int z27), .val (.int (3 : Int32)), .val (.ref b41), .unset, .unset] [(.int (0 : Int32))])
              refine go (T' := T43) (f' := (mkF m 198 #[.val (.int p0), .val (.int p1), .val (.int p2), .val (.int p3), .val (.int p4), .val (.int w5), .val (.int w6), .val (.int z1), .val (.int z2), .val (.int (1 : Int32)), .val (.int (2 : Int32)), .val (.ref r25), .val (.ref r26), .val (.int w13), .val (.int z27), .val (.int (3 : Int32)), .val (.ref b41), .unset, .unset] [])) (by intro t k; exact XS.ifNo X43.here hx rfl (hb hby at_195) rfl ((if0 _ _).trans (teq (rfl : (0 : Int32) = (0 : Int32))).2) k) ?_
              refine go (T' := T43) (f' := (mkF m 199 #[.val (.int p0), .val (.int p1), .val (.int p2), .val (.int p3), .val (.int p4), .val (.int w5), .val (.int w6), .val (.int z1), .val (.int z2), .val (.int (1 : Int32)), .val (.int (2 : Int32)), .val (.ref r25), .val (.ref r26), .val (.int w13), .val (.int z27), .val (.int (3 : Int32)), .val (.ref b41), .unset, .unset] [(.int (1 : Int32))])) (by intro t k; exact XS.iconst X43.here hx rfl (hb hby at_198) k) ?_
              refine go (T' := T43) (f' := (mkF m 203 #[.val (.int p0), .val (.int p1), .val (.int p2), .val (.int p3), .val (.int p4), .val (.int w5), .val (.int w6), .val (.int z1), .val (.int z2), .val (.int (1 : Int32)), .val (.int (2 : Int32)), .val (.ref r25), .val (.ref r26), .val (.int w13), .val (.int z27), .val (.int (3 : Int32)), .val (.ref b41), .unset, .unset] [(.int (1 : Int32))])) (by intro t k; exact XS.goto X43.here hx rfl (pc0 := 199) (pc' := 203) rfl (hb hby at_199) (by decide) (by decide) k) ?_
              refine retZ X43 hx (t := .boolean) Bd.returns (by simp) (hb hby at_203) hlk (by decide) (by decide) ?_
              show Q0 Z p0 p1 p2 p3 p4 cs h0 n0 _ T43.heap _
              rw [e43]
              have hv' : (nar .boolean (1 : Int32)) = (1 : Int32) := by
                rfl
              have hv : (some (.int (nar .boolean (1 : Int32))) : Option Value) = some (.int (1 : Int32)) := congrArg (fun z => (some (.int z) : Option Value)) hv'
              exact ⟨hv, N43⟩
          show Run _ _ _ _ _ _ _ T26 (mkF m 113 #[.val (.int p0), .val (.int p1), .val (.int p2), .val (.int p3), .val (.int p4), .val (.int w5), .val (.int w6), .val (.int z1), .val (.int z2), .val (.int (1 : Int32)), .val (.int (2 : Int32)), .val (.ref r25), .val (.ref r26), .val (.int w13), .unset, .unset, .unset, .unset, .unset] [(.int (p4 &&& (16 : Int32)))])
          by_cases hc113 : (p4 &&& (16 : Int32)) = (0 : Int32)
          · refine go (T' := T26) (f' := (mkF m 123 #[.val (.int p0), .val (.int p1), .val (.int p2), .val (.int p3), .val (.int p4), .val (.int w5), .val (.int w6), .val (.int z1), .val (.int z2), .val (.int (1 : Int32)), .val (.int (2 : Int32)), .val (.ref r25), .val (.ref r26), .val (.int w13), .unset, .unset, .unset, .unset, .unset] [])) (by intro t k; exact XS.ifYes X26.here hx rfl (pc0 := 113) (pc' := 123) rfl (hb hby at_113) rfl ((if0 _ _).trans (teq hc113).1) (by decide) (by decide) k) ?_
            refine go (T' := T26) (f' := (mkF m 125 #[.val (.int p0), .val (.int p1), .val (.int p2), .val (.int p3), .val (.int p4), .val (.int w5), .val (.int w6), .val (.int z1), .val (.int z2), .val (.int (1 : Int32)), .val (.int (2 : Int32)), .val (.ref r25), .val (.ref r26), .val (.int w13), .unset, .unset, .unset, .unset, .unset] [(.int w13)])) (by intro t k; exact XS.iload X26.here hx rfl (hb hby at_123) rfl k) ?_
            have ez27 : z27 = w13 := (hz27).trans (if_pos hc113)
            subst ez27
            exact J113
          · refine go (T' := T26) (f' := (mkF m 116 #[.val (.int p0), .val (.int p1), .val (.int p2), .val (.int p3), .val (.int p4), .val (.int w5), .val (.int w6), .val (.int z1), .val (.int z2), .val (.int (1 : Int32)), .val (.int (2 : Int32)), .val (.ref r25), .val (.ref r26), .val (.int w13), .unset, .unset, .unset, .unset, .unset] [])) (by intro t k; exact XS.ifNo X26.here hx rfl (hb hby at_113) rfl ((if0 _ _).trans (feq hc113).1) k) ?_
            refine go (T' := T26) (f' := (mkF m 117 #[.val (.int p0), .val (.int p1), .val (.int p2), .val (.int p3), .val (.int p4), .val (.int w5), .val (.int w6), .val (.int z1), .val (.int z2), .val (.int (1 : Int32)), .val (.int (2 : Int32)), .val (.ref r25), .val (.ref r26), .val (.int w13), .unset, .unset, .unset, .unset, .unset] [(.int p3)])) (by intro t k; exact XS.iloadN X26.here hx rfl (hb hby at_116) rfl k) ?_
            refine go (T' := T26) (f' := (mkF m 119 #[.val (.int p0), .val (.int p1), .val (.int p2), .val (.int p3), .val (.int p4), .val (.int w5), .val (.int w6), .val (.int z1), .val (.int z2), .val (.int (1 : Int32)), .val (.int (2 : Int32)), .val (.ref r25), .val (.ref r26), .val (.int w13), .unset, .unset, .unset, .unset, .unset] [(.int (2147483647 : Int32)), (.int p3)])) (by intro t k; exact X26.ldcInt hx hown (mvT hZ (hw _ (List.mem_of_getElem? (i := 34) rfl))) (g := (mkF m 117 #[.val (.int p0), .val (.int p1), .val (.int p2), .val (.int p3), .val (.int p4), .val (.int w5), .val (.int w6), .val (.int z1), .val (.int z2), .val (.int (1 : Int32)), .val (.int (2 : Int32)), .val (.ref r25), .val (.ref r26), .val (.int w13), .unset, .unset, .unset, .unset, .unset] [(.int p3)])) rfl (hb hby at_117) _ k) ?_
            refine go (T' := T26) (f' := (mkF m 120 #[.val (.int p0), .val (.int p1), .val (.int p2), .val (.int p3), .val (.int p4), .val (.int w5), .val (.int w6), .val (.int z1), .val (.int z2), .val (.int (1 : Int32)), .val (.int (2 : Int32)), .val (.ref r25), .val (.ref r26), .val (.int w13), .unset, .unset, .unset, .unset, .unset] [(.int (p3 &&& (2147483647 : Int32)))])) (by intro t k; exact XS.iand X26.here hx rfl (hb hby at_119) rfl k) ?_
            refine go (T' := T26) (f' := (mkF m 125 #[.val (.int p0), .val (.int p1), .val (.int p2), .val (.int p3), .val (.int p4), .val (.int w5), .val (.int w6), .val (.int z1), .val (.int z2), .val (.int (1 : Int32)), .val (.int (2 : Int32)), .val (.ref r25), .val (.ref r26), .val (.int w13), .unset, .unset, .unset, .unset, .unset] [(.int (p3 &&& (2147483647 : Int32)))])) (by intro t k; exact XS.goto X26.here hx rfl (pc0 := 120) (pc' := 125) rfl (hb hby at_120) (by decide) (by decide) k) ?_
            have ez27 : z27 = (p3 &&& (2147483647 : Int32)) := (hz27).trans (if_neg hc113)
            subst ez27
            exact J113
      · subst ez
        show Run _ _ _ _ _ _ _ s₁ (mkF m 80 #[.val (.int p0), .val (.int p1), .val (.int p2), .val (.int p3), .val (.int p4), .val (.int w5), .val (.int w6), .val (.int z1), .val (.int z2), .val (.int (2 : Int32)), .val (.int ((1 : Int32) + ((((p4).toUInt32 >>> ((3 : Int32) &&& 31).toUInt32).toInt32) &&& (1 : Int32)))), .unset, .unset, .unset, .unset, .unset, .unset, .unset, .unset] [])
        refine go (T' := s₁) (f' := (mkF m 82 #[.val (.int p0), .val (.int p1), .val (.int p2), .val (.int p3), .val (.int p4), .val (.int w5), .val (.int w6), .val (.int z1), .val (.int z2), .val (.int (2 : Int32)), .val (.int ((1 : Int32) + ((((p4).toUInt32 >>> ((3 : Int32) &&& 31).toUInt32).toInt32) &&& (1 : Int32)))), .unset, .unset, .unset, .unset, .unset, .unset, .unset, .unset] [(.int (2 : Int32))])) (by intro t k; exact XS.iload X0.here hx rfl (hb hby at_80) rfl k) ?_
        obtain ⟨z44, hz44⟩ : ∃ z : Int32, z = ((1 : Int32) + ((((p4).toUInt32 >>> ((3 : Int32) &&& 31).toUInt32).toInt32) &&& (1 : Int32))) := ⟨_, rfl⟩
        rw [← hz44]
        rcases (own_len hz44 : z44 = (1 : Int32) ∨ z44 = (2 : Int32)) with ez | ez
        · subst ez
          show Run _ _ _ _ _ _ _ s₁ (mkF m 82 #[.val (.int p0), .val (.int p1), .val (.int p2), .val (.int p3), .val (.int p4), .val (.int w5), .val (.int w6), .val (.int z1), .val (.int z2), .val (.int (2 : Int32)), .val (.int (1 : Int32)), .unset, .unset, .unset, .unset, .unset, .unset, .unset, .unset] [(.int (2 : Int32))])
          refine go (T' := s₁) (f' := (mkF m 84 #[.val (.int p0), .val (.int p1), .val (.int p2), .val (.int p3), .val (.int p4), .val (.int w5), .val (.int w6), .val (.int z1), .val (.int z2), .val (.int (2 : Int32)), .val (.int (1 : Int32)), .unset, .unset, .unset, .unset, .unset, .unset, .unset, .unset] [(.int w5), (.int (2 : Int32))])) (by intro t k; exact XS.iload X0.here hx rfl (hb hby at_82) rfl k) ?_
          refine go (T' := s₁) (f' := (mkF m 86 #[.val (.int p0), .val (.int p1), .val (.int p2), .val (.int p3), .val (.int p4), .val (.int w5), .val (.int w6), .val (.int z1), .val (.int z2), .val (.int (2 : Int32)), .val (.int (1 : Int32)), .unset, .unset, .unset, .unset, .unset, .unset, .unset, .unset] [(.int w6), (.int w5), (.int (2 : Int32))])) (by intro t k; exact XS.iload X0.here hx rfl (hb hby at_84) rfl k) ?_
          obtain ⟨_, _, ⟨T45, Lz45, kz45, nz45⟩, -, X45, ⟨Lc45, hQ45, lz45, yz45, zz45⟩, st45⟩ := Jvm.LawKit.callS X0 hx (y := (⟨"com/example/backchain/backchain/model/PredicateEqualsPinLaw", "makeName", "(ICC)Ljava/lang/String;"⟩ : MethodName)) hown (mvT hZ (hw _ (List.mem_of_getElem? (i := 0) rfl))) (mvT hZ (hw _ (List.mem_of_getElem? (i := 1) rfl))) (mvT hZ (hw _ (List.mem_of_getElem? (i := 2) rfl))) (mvT hZ (hw _ (List.mem_of_getElem? (i := 3) rfl))) (by decide) (backOf (W := 0) (rm1n2 l Z aw hw [] w5 w6 cs h0 n0 Z0 O0 S_cs hcs (own_nc hc5) (own_nc hc6)) hZ (hw _ (List.mem_of_getElem? (i := 3) rfl)) (hw _ (List.mem_of_getElem? (i := 2) rfl)) (by decide) (by decide)) (g := (mkF m 86 #[.val (.int p0), .val (.int p1), .val (.int p2), .val (.int p3), .val (.int p4), .val (.int w5), .val (.int w6), .val (.int z1), .val (.int z2), .val (.int (2 : Int32)), .val (.int (1 : Int32)), .unset, .unset, .unset, .unset, .unset, .unset, .unset, .unset] [(.int w6), (.int w5), (.int (2 : Int32))])) rfl (by rw [hml]; rfl) (argsL := [(.int (2 : Int32)), (.int w5), (.int w6)]) (rest := []) (lenOf pd_28ICC29Ljava2flang2fString3b rfl) rfl (by show 2 * 0 + _ ≤ _; exact Nat.le_of_eq rfl) (hb hby at_86) (fun _ _ => ⟨rfl, e0, (by decide : 0 + 3 ≤ _), (by decide : 0 + 8 ≤ _)⟩)
          dsimp only [Pt.U, Pt.locs, Pt.cells, Pt.slots] at X45 lz45 yz45 zz45 st45 hQ45
          subst lz45 yz45 zz45
          obtain ⟨r45, rfl, sz45, N45q, K45, sb45, zb45, nrb45, E45, Fc45, Fv45, Ab45⟩ := hQ45
          have ge_r45 : n0 ≤ r45 := Nat.le_trans Z0 sz45
          have ge_sb45 : n0 ≤ sb45 := Nat.le_trans Z0 zb45
          have O45 : Old Z n0 T45.heap := O0.keep K45 all0
          have Z45 : n0 ≤ T45.heap.size := Nat.le_trans Z0 K45.1
          have N45 := Fr.app N0 N45q
          refine go st45 ?_
          show Run _ _ _ _ _ _ _ T45 (mkF m 89 #[.val (.int p0), .val (.int p1), .val (.int p2), .val (.int p3), .val (.int p4), .val (.int w5), .val (.int w6), .val (.int z1), .val (.int z2), .val (.int (2 : Int32)), .val (.int (1 : Int32)), .unset, .unset, .unset, .unset, .unset, .unset, .unset, .unset] [(.ref r45)])
          refine go (T' := T45) (f' := (mkF m 91 #[.val (.int p0), .val (.int p1), .val (.int p2), .val (.int p3), .val (.int p4), .val (.int w5), .val (.int w6), .val (.int z1), .val (.int z2), .val (.int (2 : Int32)), .val (.int (1 : Int32)), .val (.ref r45), .unset, .unset, .unset, .unset, .unset, .unset, .unset] [])) (by intro t k; exact XS.astore X45.here hx rfl (hb hby at_89) rfl rfl (l' := #[.val (.int p0), .val (.int p1), .val (.int p2), .val (.int p3), .val (.int p4), .val (.int w5), .val (.int w6), .val (.int z1), .val (.int z2), .val (.int (2 : Int32)), .val (.int (1 : Int32)), .val (.ref r45), .unset, .unset, .unset, .unset, .unset, .unset, .unset]) rfl k) ?_
          refine go (T' := T45) (f' := (mkF m 93 #[.val (.int p0), .val (.int p1), .val (.int p2), .val (.int p3), .val (.int p4), .val (.int w5), .val (.int w6), .val (.int z1), .val (.int z2), .val (.int (2 : Int32)), .val (.int (1 : Int32)), .val (.ref r45), .unset, .unset, .unset, .unset, .unset, .unset, .unset] [(.int (1 : Int32))])) (by intro t k; exact XS.iload X45.here hx rfl (hb hby at_91) rfl k) ?_
          refine go (T' := T45) (f' := (mkF m 95 #[.val (.int p0), .val (.int p1), .val (.int p2), .val (.int p3), .val (.int p4), .val (.int w5), .val (.int w6), .val (.int z1), .val (.int z2), .val (.int (2 : Int32)), .val (.int (1 : Int32)), .val (.ref r45), .unset, .unset, .unset, .unset, .unset, .unset, .unset] [(.int z1), (.int (1 : Int32))])) (by intro t k; exact XS.iload X45.here hx rfl (hb hby at_93) rfl k) ?_
          refine go (T' := T45) (f' := (mkF m 97 #[.val (.int p0), .val (.int p1), .val (.int p2), .val (.int p3), .val (.int p4), .val (.int w5), .val (.int w6), .val (.int z1), .val (.int z2), .val (.int (2 : Int32)), .val (.int (1 : Int32)), .val (.ref r45), .unset, .unset, .unset, .unset, .unset, .unset, .unset] [(.int z2), (.int z1), (.int (1 : Int32))])) (by intro t k; exact XS.iload X45.here hx rfl (hb hby at_95) rfl k) ?_
          obtain ⟨_, _, ⟨T46, Lz46, kz46, nz46⟩, -, X46, ⟨Lc46, hQ46, lz46, yz46, zz46⟩, st46⟩ := Jvm.LawKit.callS X45 hx (y := (⟨"com/example/backchain/backchain/model/PredicateEqualsPinLaw", "makeName", "(ICC)Ljava/lang/String;"⟩ : MethodName)) hown (mvT hZ (hw _ (List.mem_of_getElem? (i := 0) rfl))) (mvT hZ (hw _ (List.mem_of_getElem? (i := 1) rfl))) (mvT hZ (hw _ (List.mem_of_getElem? (i := 2) rfl))) (mvT hZ (hw _ (List.mem_of_getElem? (i := 3) rfl))) (by decide) (backOf (W := 0) (rm1n1 l Z aw hw [] z1 z2 cs T45.heap n0 Z45 O45 S_cs hcs (own_nc hc7)) hZ (hw _ (List.mem_of_getElem? (i := 3) rfl)) (hw _ (List.mem_of_getElem? (i := 2) rfl)) (by decide) (by decide)) (g := (mkF m 97 #[.val (.int p0), .val (.int p1), .val (.int p2), .val (.int p3), .val (.int p4), .val (.int w5), .val (.int w6), .val (.int z1), .val (.int z2), .val (.int (2 : Int32)), .val (.int (1 : Int32)), .val (.ref r45), .unset, .unset, .unset, .unset, .unset, .unset, .unset] [(.int z2), (.int z1), (.int (1 : Int32))])) rfl (by rw [hml]; rfl) (argsL := [(.int (1 : Int32)), (.int z1), (.int z2)]) (rest := []) (lenOf pd_28ICC29Ljava2flang2fString3b rfl) rfl (by show 2 * 0 + _ ≤ _; exact Nat.le_of_eq rfl) (hb hby at_97) (fun _ _ => ⟨rfl, rfl, (by decide : 3 + 3 ≤ _), (by decide : 8 + 6 ≤ _)⟩)
          dsimp only [Pt.U, Pt.locs, Pt.cells, Pt.slots] at X46 lz46 yz46 zz46 st46 hQ46
          subst lz46 yz46 zz46
          obtain ⟨r46, rfl, sz46, N46q, K46, sb46, zb46, nrb46, E46, Fc46, Fv46, Ab46⟩ := hQ46
          have ne_r45_r46 : r45 ≠ r46 := Nat.ne_of_lt (Nat.lt_of_lt_of_le E45.lt sz46)
          have ne_sb45_r46 : sb45 ≠ r46 := Nat.ne_of_lt (Nat.lt_of_lt_of_le Ab45.lt sz46)
          have ge_r46 : n0 ≤ r46 := Nat.le_trans Z45 sz46
          have ne_r45_sb46 : r45 ≠ sb46 := Nat.ne_of_lt (Nat.lt_of_lt_of_le E45.lt zb46)
          have ne_sb45_sb46 : sb45 ≠ sb46 := Nat.ne_of_lt (Nat.lt_of_lt_of_le Ab45.lt zb46)
          have ge_sb46 : n0 ≤ sb46 := Nat.le_trans Z45 zb46
          have E46_r45 := Exa.keep E45 K46
          have F46_r45_coder := Fld.keep Fc45 K46 nin0
          have F46_r45_value := Fld.keep Fv45 K46 nin0
          have A46_sb45 := Ary.keep Ab45 K46 nin0
          have O46 : Old Z n0 T46.heap := O45.keep K46 all0
          have Z46 : n0 ≤ T46.heap.size := Nat.le_trans Z45 K46.1
          have N46 := Fr.app N45 N46q
          refine go st46 ?_
          show Run _ _ _ _ _ _ _ T46 (mkF m 100 #[.val (.int p0), .val (.int p1), .val (.int p2), .val (.int p3), .val (.int p4), .val (.int w5), .val (.int w6), .val (.int z1), .val (.int z2), .val (.int (2 : Int32)), .val (.int (1 : Int32)), .val (.ref r45), .unset, .unset, .unset, .unset, .unset, .unset, .unset] [(.ref r46)])
          refine go (T' := T46) (f' := (mkF m 102 #[.val (.int p0), .val (.int p1), .val (.int p2), .val (.int p3), .val (.int p4), .val (.int w5), .val (.int w6), .val (.int z1), .val (.int z2), .val (.int (2 : Int32)), .val (.int (1 : Int32)), .val (.ref r45), .val (.ref r46), .unset, .unset, .unset, .unset, .unset, .unset] [])) (by intro t k; exact XS.astore X46.here hx rfl (hb hby at_100) rfl rfl (l' := #[.val (.int p0), .val (.int p1), .val (.int p2), .val (.int p3), .val (.int p4), .val (.int w5), .val (.int w6), .val (.int z1), .val (.int z2), .val (.int (2 : Int32)), .val (.int (1 : Int32)), .val (.ref r45), .val (.ref r46), .unset, .unset, .unset, .unset, .unset, .unset]) rfl k) ?_
          refine go (T' := T46) (f' := (mkF m 103 #[.val (.int p0), .val (.int p1), .val (.int p2), .val (.int p3), .val (.int p4), .val (.int w5), .val (.int w6), .val (.int z1), .val (.int z2), .val (.int (2 : Int32)), .val (.int (1 : Int32)), .val (.ref r45), .val (.ref r46), .unset, .unset, .unset, .unset, .unset, .unset] [(.int p2)])) (by intro t k; exact XS.iloadN X46.here hx rfl (hb hby at_102) rfl k) ?_
          refine go (T' := T46) (f' := (mkF m 105 #[.val (.int p0), .val (.int p1), .val (.int p2), .val (.int p3), .val (.int p4), .val (.int w5), .val (.int w6), .val (.int z1), .val (.int z2), .val (.int (2 : Int32)), .val (.int (1 : Int32)), .val (.ref r45), .val (.ref r46), .unset, .unset, .unset, .unset, .unset, .unset] [(.int (2147483647 : Int32)), (.int p2)])) (by intro t k; exact X46.ldcInt hx hown (mvT hZ (hw _ (List.mem_of_getElem? (i := 34) rfl))) (g := (mkF m 103 #[.val (.int p0), .val (.int p1), .val (.int p2), .val (.int p3), .val (.int p4), .val (.int w5), .val (.int w6), .val (.int z1), .val (.int z2), .val (.int (2 : Int32)), .val (.int (1 : Int32)), .val (.ref r45), .val (.ref r46), .unset, .unset, .unset, .unset, .unset, .unset] [(.int p2)])) rfl (hb hby at_103) _ k) ?_
          refine go (T' := T46) (f' := (mkF m 106 #[.val (.int p0), .val (.int p1), .val (.int p2), .val (.int p3), .val (.int p4), .val (.int w5), .val (.int w6), .val (.int z1), .val (.int z2), .val (.int (2 : Int32)), .val (.int (1 : Int32)), .val (.ref r45), .val (.ref r46), .unset, .unset, .unset, .unset, .unset, .unset] [(.int (p2 &&& (2147483647 : Int32)))])) (by intro t k; exact XS.iand X46.here hx rfl (hb hby at_105) rfl k) ?_
          refine go (T' := T46) (f' := (mkF m 108 #[.val (.int p0), .val (.int p1), .val (.int p2), .val (.int p3), .val (.int p4), .val (.int w5), .val (.int w6), .val (.int z1), .val (.int z2), .val (.int (2 : Int32)), .val (.int (1 : Int32)), .val (.ref r45), .val (.ref r46), .val (.int (p2 &&& (2147483647 : Int32))), .unset, .unset, .unset, .unset, .unset] [])) (by intro t k; exact XS.istore X46.here hx rfl (hb hby at_106) rfl (l' := #[.val (.int p0), .val (.int p1), .val (.int p2), .val (.int p3), .val (.int p4), .val (.int w5), .val (.int w6), .val (.int z1), .val (.int z2), .val (.int (2 : Int32)), .val (.int (1 : Int32)), .val (.ref r45), .val (.ref r46), .val (.int (p2 &&& (2147483647 : Int32))), .unset, .unset, .unset, .unset, .unset]) rfl k) ?_
          obtain ⟨w13, hw13⟩ : ∃ z : Int32, z = (p2 &&& (2147483647 : Int32)) := ⟨_, rfl⟩
          rw [← hw13]
          show Run _ _ _ _ _ _ _ T46 (mkF m 108 #[.val (.int p0), .val (.int p1), .val (.int p2), .val (.int p3), .val (.int p4), .val (.int w5), .val (.int w6), .val (.int z1), .val (.int z2), .val (.int (2 : Int32)), .val (.int (1 : Int32)), .val (.ref r45), .val (.ref r46), .val (.int w13), .unset, .unset, .unset, .unset, .unset] [])
          refine go (T' := T46) (f' := (mkF m 110 #[.val (.int p0), .val (.int p1), .val (.int p2), .val (.int p3), .val (.int p4), .val (.int w5), .val (.int w6), .val (.int z1), .val (.int z2), .val (.int (2 : Int32)), .val (.int (1 : Int32)), .val (.ref r45), .val (.ref r46), .val (.int w13), .unset, .unset, .unset, .unset, .unset] [(.int p4)])) (by intro t k; exact XS.iload X46.here hx rfl (hb hby at_108) rfl k) ?_
          refine go (T' := T46) (f' := (mkF m 112 #[.val (.int p0), .val (.int p1), .val (.int p2), .val (.int p3), .val (.int p4), .val (.int w5), .val (.int w6), .val (.int z1), .val (.int z2), .val (.int (2 : Int32)), .val (.int (1 : Int32)), .val (.ref r45), .val (.ref r46), .val (.int w13), .unset, .unset, .unset, .unset, .unset] [(.int (16 : Int32)), (.int p4)])) (by intro t k; exact XS.bipush X46.here hx rfl (hb hby at_110) k) ?_
          refine go (T' := T46) (f' := (mkF m 113 #[.val (.int p0), .val (.int p1), .val (.int p2), .val (.int p3), .val (.int p4), .val (.int w5), .val (.int w6), .val (.int z1), .val (.int z2), .val (.int (2 : Int32)), .val (.int (1 : Int32)), .val (.ref r45), .val (.ref r46), .val (.int w13), .unset, .unset, .unset, .unset, .unset] [(.int (p4 &&& (16 : Int32)))])) (by intro t k; exact XS.iand X46.here hx rfl (hb hby at_112) rfl k) ?_
          obtain ⟨z47, hz47⟩ : ∃ z : Int32, z = (if (p4 &&& (16 : Int32)) = (0 : Int32) then w13 else (p3 &&& (2147483647 : Int32))) := ⟨_, rfl⟩
          have J113 : Run p e s below (Q0 Z p0 p1 p2 p3 p4 cs h0 n0) room_1.cells room_1.slots T46 (mkF m 125 #[.val (.int p0), .val (.int p1), .val (.int p2), .val (.int p3), .val (.int p4), .val (.int w5), .val (.int w6), .val (.int z1), .val (.int z2), .val (.int (2 : Int32)), .val (.int (1 : Int32)), .val (.ref r45), .val (.ref r46), .val (.int w13), .unset, .unset, .unset, .unset, .unset] [(.int z47)]) := by
            show Run _ _ _ _ _ _ _ T46 (mkF m 125 #[.val (.int p0), .val (.int p1), .val (.int p2), .val (.int p3), .val (.int p4), .val (.int w5), .val (.int w6), .val (.int z1), .val (.int z2), .val (.int (2 : Int32)), .val (.int (1 : Int32)), .val (.ref r45), .val (.ref r46), .val (.int w13), .unset, .unset, .unset, .unset, .unset] [(.int z47)])
            refine go (T' := T46) (f' := (mkF m 127 #[.val (.int p0), .val (.int p1), .val (.int p2), .val (.int p3), .val (.int p4), .val (.int w5), .val (.int w6), .val (.int z1), .val (.int z2), .val (.int (2 : Int32)), .val (.int (1 : Int32)), .val (.ref r45), .val (.ref r46), .val (.int w13), .val (.int z47), .unset, .unset, .unset, .unset] [])) (by intro t k; exact XS.istore X46.here hx rfl (hb hby at_125) rfl (l' := #[.val (.int p0), .val (.int p1), .val (.int p2), .val (.int p3), .val (.int p4), .val (.int w5), .val (.int w6), .val (.int z1), .val (.int z2), .val (.int (2 : Int32)), .val (.int (1 : Int32)), .val (.ref r45), .val (.ref r46), .val (.int w13), .val (.int z47), .unset, .unset, .unset, .unset]) rfl k) ?_
            refine go (T' := T46) (f' := (mkF m 129 #[.val (.int p0), .val (.int p1), .val (.int p2), .val (.int p3), .val (.int p4), .val (.int w5), .val (.int w6), .val (.int z1), .val (.int z2), .val (.int (2 : Int32)), .val (.int (1 : Int32)), .val (.ref r45), .val (.ref r46), .val (.int w13), .val (.int z47), .unset, .unset, .unset, .unset] [(.int p4)])) (by intro t k; exact XS.iload X46.here hx rfl (hb hby at_127) rfl k) ?_
            refine go (T' := T46) (f' := (mkF m 130 #[.val (.int p0), .val (.int p1), .val (.int p2), .val (.int p3), .val (.int p4), .val (.int w5), .val (.int w6), .val (.int z1), .val (.int z2), .val (.int (2 : Int32)), .val (.int (1 : Int32)), .val (.ref r45), .val (.ref r46), .val (.int w13), .val (.int z47), .unset, .unset, .unset, .unset] [(.int (5 : Int32)), (.int p4)])) (by intro t k; exact XS.iconst X46.here hx rfl (hb hby at_129) k) ?_
            refine go (T' := T46) (f' := (mkF m 131 #[.val (.int p0), .val (.int p1), .val (.int p2), .val (.int p3), .val (.int p4), .val (.int w5), .val (.int w6), .val (.int z1), .val (.int z2), .val (.int (2 : Int32)), .val (.int (1 : Int32)), .val (.ref r45), .val (.ref r46), .val (.int w13), .val (.int z47), .unset, .unset, .unset, .unset] [(.int (((p4).toUInt32 >>> ((5 : Int32) &&& 31).toUInt32).toInt32))])) (by intro t k; exact XS.iushr X46.here hx rfl (hb hby at_130) rfl k) ?_
            refine go (T' := T46) (f' := (mkF m 132 #[.val (.int p0), .val (.int p1), .val (.int p2), .val (.int p3), .val (.int p4), .val (.int w5), .val (.int w6), .val (.int z1), .val (.int z2), .val (.int (2 : Int32)), .val (.int (1 : Int32)), .val (.ref r45), .val (.ref r46), .val (.int w13), .val (.int z47), .unset, .unset, .unset, .unset] [(.int (3 : Int32)), (.int (((p4).toUInt32 >>> ((5 : Int32) &&& 31).toUInt32).toInt32))])) (by intro t k; exact XS.iconst X46.here hx rfl (hb hby at_131) k) ?_
            refine go (T' := T46) (f' := (mkF m 133 #[.val (.int p0), .val (.int p1), .val (.int p2), .val (.int p3), .val (.int p4), .val (.int w5), .val (.int w6), .val (.int z1), .val (.int z2), .val (.int (2 : Int32)), .val (.int (1 : Int32)), .val (.ref r45), .val (.ref r46), .val (.int w13), .val (.int z47), .unset, .unset, .unset, .unset] [(.int ((((p4).toUInt32 >>> ((5 : Int32) &&& 31).toUInt32).toInt32) &&& (3 : Int32)))])) (by intro t k; exact XS.iand X46.here hx rfl (hb hby at_132) rfl k) ?_
            refine go (T' := T46) (f' := (mkF m 135 #[.val (.int p0), .val (.int p1), .val (.int p2), .val (.int p3), .val (.int p4), .val (.int w5), .val (.int w6), .val (.int z1), .val (.int z2), .val (.int (2 : Int32)), .val (.int (1 : Int32)), .val (.ref r45), .val (.ref r46), .val (.int w13), .val (.int z47), .val (.int ((((p4).toUInt32 >>> ((5 : Int32) &&& 31).toUInt32).toInt32) &&& (3 : Int32))), .unset, .unset, .unset] [])) (by intro t k; exact XS.istore X46.here hx rfl (hb hby at_133) rfl (l' := #[.val (.int p0), .val (.int p1), .val (.int p2), .val (.int p3), .val (.int p4), .val (.int w5), .val (.int w6), .val (.int z1), .val (.int z2), .val (.int (2 : Int32)), .val (.int (1 : Int32)), .val (.ref r45), .val (.ref r46), .val (.int w13), .val (.int z47), .val (.int ((((p4).toUInt32 >>> ((5 : Int32) &&& 31).toUInt32).toInt32) &&& (3 : Int32))), .unset, .unset, .unset]) rfl k) ?_
            have ha13 := own_nn hw13
            have ha14 := own_ni hz47 ha13
            obtain ⟨z48, hz48⟩ : ∃ z : Int32, z = ((((p4).toUInt32 >>> ((5 : Int32) &&& 31).toUInt32).toInt32) &&& (3 : Int32)) := ⟨_, rfl⟩
            rw [← hz48]
            rcases (own_kind hz48 : z48 = (0 : Int32) ∨ z48 = (1 : Int32) ∨ z48 = (2 : Int32) ∨ z48 = (3 : Int32)) with ez | ez | ez | ez
            · subst ez
              show Run _ _ _ _ _ _ _ T46 (mkF m 135 #[.val (.int p0), .val (.int p1), .val (.int p2), .val (.int p3), .val (.int p4), .val (.int w5), .val (.int w6), .val (.int z1), .val (.int z2), .val (.int (2 : Int32)), .val (.int (1 : Int32)), .val (.ref r45), .val (.ref r46), .val (.int w13), .val (.int z47), .val (.int (0 : Int32)), .unset, .unset, .unset] [])
              obtain ⟨T49, h49, X49, e49, E49, A49, D49, -, st49⟩ := newO X46 hx hZ hown (hw _ (List.mem_of_getElem? (i := 35) rfl)) (hw _ (List.mem_of_getElem? (i := 36) rfl)) (hw _ (List.mem_of_getElem? (i := 37) rfl)) rfl (g := (mkF m 135 #[.val (.int p0), .val (.int p1), .val (.int p2), .val (.int p3), .val (.int p4), .val (.int w5), .val (.int w6), .val (.int z1), .val (.int z2), .val (.int (2 : Int32)), .val (.int (1 : Int32)), .val (.ref r45), .val (.ref r46), .val (.int w13), .val (.int z47), .val (.int (0 : Int32)), .unset, .unset, .unset] [])) rfl (hb hby at_135) (by decide) (by decide)
              obtain ⟨b49, g49⟩ : ∃ z, z = T46.heap.size := ⟨_, rfl⟩
              rw [← g49] at A49 D49 st49
              have ne_r45_b49 : r45 ≠ b49 := Nat.ne_of_lt (Nat.lt_of_lt_of_eq E46_r45.lt g49.symm)
              have ne_r46_b49 : r46 ≠ b49 := Nat.ne_of_lt (Nat.lt_of_lt_of_eq E46.lt g49.symm)
              have ne_sb45_b49 : sb45 ≠ b49 := Nat.ne_of_lt (Nat.lt_of_lt_of_eq A46_sb45.lt g49.symm)
              have ne_sb46_b49 : sb46 ≠ b49 := Nat.ne_of_lt (Nat.lt_of_lt_of_eq Ab46.lt g49.symm)
              have ge_b49 : n0 ≤ b49 := Nat.le_trans Z46 (Nat.le_of_eq g49.symm)
              have K49 : Keep T46.heap h49 [] := (Keep.refl _ _).ext E49
              have E49_r45 := Exa.keep E46_r45 K49
              have E49_r46 := Exa.keep E46 K49
              have F49_r45_coder := Fld.keep F46_r45_coder K49 nin0
              have F49_r45_value := Fld.keep F46_r45_value K49 nin0
              have F49_r46_coder := Fld.keep Fc46 K49 nin0
              have F49_r46_value := Fld.keep Fv46 K49 nin0
              have A49_sb45 := Ary.keep A46_sb45 K49 nin0
              have A49_sb46 := Ary.keep Ab46 K49 nin0
              have O49 : Old Z n0 h49 := O46.keep K49 all0
              have Z49 : n0 ≤ h49.size := Nat.le_trans Z46 K49.1
              have F49_b49_name : Fld Z h49 b49 "com/example/backchain/backchain/model/Predicate" "name" "Ljava/lang/String;" .null := D49 (Or.inr (hw _ (List.mem_of_getElem? (i := 48) rfl))) (ty := (.object "java/lang/String")) (by decide)
              have F49_b49_arity : Fld Z h49 b49 "com/example/backchain/backchain/model/Predicate" "arity" "I" (.int (0 : Int32)) := D49 (Or.inr (hw _ (List.mem_of_getElem? (i := 50) rfl))) (ty := .int) (by decide)
              refine go st49 ?_
              show Run _ _ _ _ _ _ _ T49 (mkF m 138 #[.val (.int p0), .val (.int p1), .val (.int p2), .val (.int p3), .val (.int p4), .val (.int w5), .val (.int w6), .val (.int z1), .val (.int z2), .val (.int (2 : Int32)), .val (.int (1 : Int32)), .val (.ref r45), .val (.ref r46), .val (.int w13), .val (.int z47), .val (.int (0 : Int32)), .unset, .unset, .unset] [(.ref b49)])
              refine go (T' := T49) (f' := (mkF m 139 #[.val (.int p0), .val (.int p1), .val (.int p2), .val (.int p3), .val (.int p4), .val (.int w5), .val (.int w6), .val (.int z1), .val (.int z2), .val (.int (2 : Int32)), .val (.int (1 : Int32)), .val (.ref r45), .val (.ref r46), .val (.int w13), .val (.int z47), .val (.int (0 : Int32)), .unset, .unset, .unset] [(.ref b49), (.ref b49)])) (by intro t k; exact XS.dup X49.here hx rfl (hb hby at_138) rfl rfl k) ?_
              refine go (T' := T49) (f' := (mkF m 141 #[.val (.int p0), .val (.int p1), .val (.int p2), .val (.int p3), .val (.int p4), .val (.int w5), .val (.int w6), .val (.int z1), .val (.int z2), .val (.int (2 : Int32)), .val (.int (1 : Int32)), .val (.ref r45), .val (.ref r46), .val (.int w13), .val (.int z47), .val (.int (0 : Int32)), .unset, .unset, .unset] [(.ref r45), (.ref b49), (.ref b49)])) (by intro t k; exact XS.aload X49.here hx rfl (hb hby at_139) rfl rfl k) ?_
              refine go (T' := T49) (f' := (mkF m 143 #[.val (.int p0), .val (.int p1), .val (.int p2), .val (.int p3), .val (.int p4), .val (.int w5), .val (.int w6), .val (.int z1), .val (.int z2), .val (.int (2 : Int32)), .val (.int (1 : Int32)), .val (.ref r45), .val (.ref r46), .val (.int w13), .val (.int z47), .val (.int (0 : Int32)), .unset, .unset, .unset] [(.int w13), (.ref r45), (.ref b49), (.ref b49)])) (by intro t k; exact XS.iload X49.here hx rfl (hb hby at_141) rfl k) ?_
              obtain ⟨_, _, ⟨T50, Lz50, kz50, nz50⟩, -, X50, ⟨Lc50, hQ50, lz50, yz50, zz50⟩, st50⟩ := X49.specialBack hx (y := (⟨"com/example/backchain/backchain/model/Predicate", "<init>", "(Ljava/lang/String;I)V"⟩ : MethodName)) rfl hown (mvT hZ (hw _ (List.mem_of_getElem? (i := 38) rfl))) (mvT hZ (hw _ (List.mem_of_getElem? (i := 39) rfl))) (mvT hZ (hw _ (List.mem_of_getElem? (i := 40) rfl))) (by decide) (backOf (W := 1) (rm8 l Z aw hw [] b49 r45 w13 sb45 [(.int (nar .byte (((nar .char w5)).toInt8.toInt32))), (.int (nar .byte (((nar .char w6)).toInt8.toInt32)))] (2 : Int32) h49 n0 Z49 A49 F49_b49_name F49_b49_arity ge_b49 E49_r45 F49_r45_value A49_sb45 (Ne.symm ne_r45_b49) (Ne.symm ne_sb45_b49) rfl (by decide) ha13) hZ (hw _ (List.mem_of_getElem? (i := 40) rfl)) (hw _ (List.mem_of_getElem? (i := 37) rfl)) (by decide) (by decide)) (g := (mkF m 143 #[.val (.int p0), .val (.int p1), .val (.int p2), .val (.int p3), .val (.int p4), .val (.int w5), .val (.int w6), .val (.int z1), .val (.int z2), .val (.int (2 : Int32)), .val (.int (1 : Int32)), .val (.ref r45), .val (.ref r46), .val (.int w13), .val (.int z47), .val (.int (0 : Int32)), .unset, .unset, .unset] [(.int w13), (.ref r45), (.ref b49), (.ref b49)])) rfl (by rw [hml]; rfl) (Steps.refl _) (a := b49) (argsL := [(.ref r45), (.int w13)]) (rest := [(.ref b49)]) (lenOf pd_28Ljava2flang2fString3bI29V rfl) rfl (by show 2 * 0 + _ ≤ _; exact Nat.le_of_eq rfl) (hb hby at_143) (fun _ _ => ⟨rfl, e49, (by decide : 7 + 0 ≤ _), (by decide : 16 + 0 ≤ _)⟩)
              dsimp only [Pt.U, Pt.locs, Pt.cells, Pt.slots] at X50 lz50 yz50 zz50 st50 hQ50
              subst lz50 yz50 zz50
              obtain ⟨rfl, N50q, K50, Fn50, Fa50⟩ := hQ50
              have E50_r45 := Exa.keep E49_r45 K50
              have E50_r46 := Exa.keep E49_r46 K50
              have E50_b49 := Exa.keep A49 K50
              have F50_r45_coder := Fld.keep F49_r45_coder K50 (ninS ne_r45_b49 nin0)
              have F50_r45_value := Fld.keep F49_r45_value K50 (ninS ne_r45_b49 nin0)
              have F50_r46_coder := Fld.keep F49_r46_coder K50 (ninS ne_r46_b49 nin0)
              have F50_r46_value := Fld.keep F49_r46_value K50 (ninS ne_r46_b49 nin0)
              have A50_sb45 := Ary.keep A49_sb45 K50 (ninS ne_sb45_b49 nin0)
              have A50_sb46 := Ary.keep A49_sb46 K50 (ninS ne_sb46_b49 nin0)
              have O50 : Old Z n0 T50.heap := O49.keep K50 (allS ge_b49 all0)
              have Z50 : n0 ≤ T50.heap.size := Nat.le_trans Z49 K50.1
              have N50 := Fr.app N46 N50q
              refine go (fun _ k => st50.trans k) ?_
              show Run _ _ _ _ _ _ _ T50 (mkF m 146 #[.val (.int p0), .val (.int p1), .val (.int p2), .val (.int p3), .val (.int p4), .val (.int w5), .val (.int w6), .val (.int z1), .val (.int z2), .val (.int (2 : Int32)), .val (.int (1 : Int32)), .val (.ref r45), .val (.ref r46), .val (.int w13), .val (.int z47), .val (.int (0 : Int32)), .unset, .unset, .unset] [(.ref b49)])
              refine go (T' := T50) (f' := (mkF m 148 #[.val (.int p0), .val (.int p1), .val (.int p2), .val (.int p3), .val (.int p4), .val (.int w5), .val (.int w6), .val (.int z1), .val (.int z2), .val (.int (2 : Int32)), .val (.int (1 : Int32)), .val (.ref r45), .val (.ref r46), .val (.int w13), .val (.int z47), .val (.int (0 : Int32)), .val (.ref b49), .unset, .unset] [])) (by intro t k; exact XS.astore X50.here hx rfl (hb hby at_146) rfl rfl (l' := #[.val (.int p0), .val (.int p1), .val (.int p2), .val (.int p3), .val (.int p4), .val (.int w5), .val (.int w6), .val (.int z1), .val (.int z2), .val (.int (2 : Int32)), .val (.int (1 : Int32)), .val (.ref r45), .val (.ref r46), .val (.int w13), .val (.int z47), .val (.int (0 : Int32)), .val (.ref b49), .unset, .unset]) rfl k) ?_
              refine go (T' := T50) (f' := (mkF m 150 #[.val (.int p0), .val (.int p1), .val (.int p2), .val (.int p3), .val (.int p4), .val (.int w5), .val (.int w6), .val (.int z1), .val (.int z2), .val (.int (2 : Int32)), .val (.int (1 : Int32)), .val (.ref r45), .val (.ref r46), .val (.int w13), .val (.int z47), .val (.int (0 : Int32)), .val (.ref b49), .unset, .unset] [(.int (0 : Int32))])) (by intro t k; exact XS.iload X50.here hx rfl (hb hby at_148) rfl k) ?_
              refine go (T' := T50) (f' := (mkF m 153 #[.val (.int p0), .val (.int p1), .val (.int p2), .val (.int p3), .val (.int p4), .val (.int w5), .val (.int w6), .val (.int z1), .val (.int z2), .val (.int (2 : Int32)), .val (.int (1 : Int32)), .val (.ref r45), .val (.ref r46), .val (.int w13), .val (.int z47), .val (.int (0 : Int32)), .val (.ref b49), .unset, .unset] [])) (by intro t k; exact XS.ifNo X50.here hx rfl (hb hby at_150) rfl ((if0 _ _).trans (teq (rfl : (0 : Int32) = (0 : Int32))).2) k) ?_
              refine go (T' := T50) (f' := (mkF m 155 #[.val (.int p0), .val (.int p1), .val (.int p2), .val (.int p3), .val (.int p4), .val (.int w5), .val (.int w6), .val (.int z1), .val (.int z2), .val (.int (2 : Int32)), .val (.int (1 : Int32)), .val (.ref r45), .val (.ref r46), .val (.int w13), .val (.int z47), .val (.int (0 : Int32)), .val (.ref b49), .unset, .unset] [(.ref b49)])) (by intro t k; exact XS.aload X50.here hx rfl (hb hby at_153) rfl rfl k) ?_
              refine go (T' := T50) (f' := (mkF m 157 #[.val (.int p0), .val (.int p1), .val (.int p2), .val (.int p3), .val (.int p4), .val (.int w5), .val (.int w6), .val (.int z1), .val (.int z2), .val (.int (2 : Int32)), .val (.int (1 : Int32)), .val (.ref r45), .val (.ref r46), .val (.int w13), .val (.int z47), .val (.int (0 : Int32)), .val (.ref b49), .unset, .unset] [(.ref b49), (.ref b49)])) (by intro t k; exact XS.aload X50.here hx rfl (hb hby at_155) rfl rfl k) ?_
              obtain ⟨cq51, kq51, q51a, q51b, q51c⟩ := isOf hZ rfl E50_b49
              obtain ⟨_, _, ⟨T51, Lz51, kz51, nz51⟩, -, X51, ⟨Lc51, hQ51, lz51, yz51, zz51⟩, st51⟩ := X50.virtualBack hx (y := (⟨"com/example/backchain/backchain/model/Predicate", "equals", "(Ljava/lang/Object;)Z"⟩ : MethodName)) (z := (⟨"com/example/backchain/backchain/model/Predicate", "equals", "(Ljava/lang/Object;)Z"⟩ : MethodName)) hown (mvT hZ (hw _ (List.mem_of_getElem? (i := 51) rfl))) (mvT hZ (hw _ (List.mem_of_getElem? (i := 52) rfl))) (notFace_of_selects (args := #[]) (mvT hZ (hw _ (List.mem_of_getElem? (i := 54) rfl)))) (mvT hZ (hw _ (List.mem_of_getElem? (i := 54) rfl))) (mvT hZ (hw _ (List.mem_of_getElem? (i := 53) rfl))) (by decide) (backOf (W := 0) (rm10s l Z aw hw [] b49 b49  T50.heap n0 Z50 rfl) hZ (hw _ (List.mem_of_getElem? (i := 55) rfl)) (hw _ (List.mem_of_getElem? (i := 37) rfl)) (by decide) (by decide)) q51a q51c (g := (mkF m 157 #[.val (.int p0), .val (.int p1), .val (.int p2), .val (.int p3), .val (.int p4), .val (.int w5), .val (.int w6), .val (.int z1), .val (.int z2), .val (.int (2 : Int32)), .val (.int (1 : Int32)), .val (.ref r45), .val (.ref r46), .val (.int w13), .val (.int z47), .val (.int (0 : Int32)), .val (.ref b49), .unset, .unset] [(.ref b49), (.ref b49)])) rfl (by rw [hml]; rfl) (Steps.refl _) (argsL := [(.ref b49)]) (rest := []) (lenOf pd_28Ljava2flang2fObject3b29Z rfl) rfl (by show 2 * 0 + _ ≤ _; exact Nat.le_of_eq rfl) (hb hby at_157) (fun _ _ => ⟨rfl, rfl, (by decide : 7 + 0 ≤ _), (by decide : 16 + 0 ≤ _)⟩)
              dsimp only [Pt.U, Pt.locs, Pt.cells, Pt.slots] at X51 lz51 yz51 zz51 st51 hQ51
              subst lz51 yz51 zz51
              obtain ⟨rfl, N51q, e51⟩ := hQ51
              have N51 := Fr.app N50 N51q
              refine go (fun _ k => st51.trans k) ?_
              show Run _ _ _ _ _ _ _ T51 (mkF m 160 #[.val (.int p0), .val (.int p1), .val (.int p2), .val (.int p3), .val (.int p4), .val (.int w5), .val (.int w6), .val (.int z1), .val (.int z2), .val (.int (2 : Int32)), .val (.int (1 : Int32)), .val (.ref r45), .val (.ref r46), .val (.int w13), .val (.int z47), .val (.int (0 : Int32)), .val (.ref b49), .unset, .unset] [(.int (1 : Int32))])
              refine retZ X51 hx (t := .boolean) Bd.returns (by simp) (hb hby at_160) hlk (by decide) (by decide) ?_
              show Q0 Z p0 p1 p2 p3 p4 cs h0 n0 _ T51.heap _
              rw [e51]
              have hv' : (nar .boolean (1 : Int32)) = (1 : Int32) := by
                rfl
              have hv : (some (.int (nar .boolean (1 : Int32))) : Option Value) = some (.int (1 : Int32)) := congrArg (fun z => (some (.int z) : Option Value)) hv'
              exact ⟨hv, N51⟩
            · subst ez
              show Run _ _ _ _ _ _ _ T46 (mkF m 135 #[.val (.int p0), .val (.int p1), .val (.int p2), .val (.int p3), .val (.int p4), .val (.int w5), .val (.int w6), .val (.int z1), .val (.int z2), .val (.int (2 : Int32)), .val (.int (1 : Int32)), .val (.ref r45), .val (.ref r46), .val (.int w13), .val (.int z47), .val (.int (1 : Int32)), .unset, .unset, .unset] [])
              obtain ⟨T52, h52, X52, e52, E52, A52, D52, -, st52⟩ := newO X46 hx hZ hown (hw _ (List.mem_of_getElem? (i := 35) rfl)) (hw _ (List.mem_of_getElem? (i := 36) rfl)) (hw _ (List.mem_of_getElem? (i := 37) rfl)) rfl (g := (mkF m 135 #[.val (.int p0), .val (.int p1), .val (.int p2), .val (.int p3), .val (.int p4), .val (.int w5), .val (.int w6), .val (.int z1), .val (.int z2), .val (.int (2 : Int32)), .val (.int (1 : Int32)), .val (.ref r45), .val (.ref r46), .val (.int w13), .val (.int z47), .val (.int (1 : Int32)), .unset, .unset, .unset] [])) rfl (hb hby at_135) (by decide) (by decide)
              obtain ⟨b52, g52⟩ : ∃ z, z = T46.heap.size := ⟨_, rfl⟩
              rw [← g52] at A52 D52 st52
              have ne_r45_b52 : r45 ≠ b52 := Nat.ne_of_lt (Nat.lt_of_lt_of_eq E46_r45.lt g52.symm)
              have ne_r46_b52 : r46 ≠ b52 := Nat.ne_of_lt (Nat.lt_of_lt_of_eq E46.lt g52.symm)
              have ne_sb45_b52 : sb45 ≠ b52 := Nat.ne_of_lt (Nat.lt_of_lt_of_eq A46_sb45.lt g52.symm)
              have ne_sb46_b52 : sb46 ≠ b52 := Nat.ne_of_lt (Nat.lt_of_lt_of_eq Ab46.lt g52.symm)
              have ge_b52 : n0 ≤ b52 := Nat.le_trans Z46 (Nat.le_of_eq g52.symm)
              have K52 : Keep T46.heap h52 [] := (Keep.refl _ _).ext E52
              have E52_r45 := Exa.keep E46_r45 K52
              have E52_r46 := Exa.keep E46 K52
              have F52_r45_coder := Fld.keep F46_r45_coder K52 nin0
              have F52_r45_value := Fld.keep F46_r45_value K52 nin0
              have F52_r46_coder := Fld.keep Fc46 K52 nin0
              have F52_r46_value := Fld.keep Fv46 K52 nin0
              have A52_sb45 := Ary.keep A46_sb45 K52 nin0
              have A52_sb46 := Ary.keep Ab46 K52 nin0
              have O52 : Old Z n0 h52 := O46.keep K52 all0
              have Z52 : n0 ≤ h52.size := Nat.le_trans Z46 K52.1
              have F52_b52_name : Fld Z h52 b52 "com/example/backchain/backchain/model/Predicate" "name" "Ljava/lang/String;" .null := D52 (Or.inr (hw _ (List.mem_of_getElem? (i := 48) rfl))) (ty := (.object "java/lang/String")) (by decide)
              have F52_b52_arity : Fld Z h52 b52 "com/example/backchain/backchain/model/Predicate" "arity" "I" (.int (0 : Int32)) := D52 (Or.inr (hw _ (List.mem_of_getElem? (i := 50) rfl))) (ty := .int) (by decide)
              refine go st52 ?_
              show Run _ _ _ _ _ _ _ T52 (mkF m 138 #[.val (.int p0), .val (.int p1), .val (.int p2), .val (.int p3), .val (.int p4), .val (.int w5), .val (.int w6), .val (.int z1), .val (.int z2), .val (.int (2 : Int32)), .val (.int (1 : Int32)), .val (.ref r45), .val (.ref r46), .val (.int w13), .val (.int z47), .val (.int (1 : Int32)), .unset, .unset, .unset] [(.ref b52)])
              refine go (T' := T52) (f' := (mkF m 139 #[.val (.int p0), .val (.int p1), .val (.int p2), .val (.int p3), .val (.int p4), .val (.int w5), .val (.int w6), .val (.int z1), .val (.int z2), .val (.int (2 : Int32)), .val (.int (1 : Int32)), .val (.ref r45), .val (.ref r46), .val (.int w13), .val (.int z47), .val (.int (1 : Int32)), .unset, .unset, .unset] [(.ref b52), (.ref b52)])) (by intro t k; exact XS.dup X52.here hx rfl (hb hby at_138) rfl rfl k) ?_
              refine go (T' := T52) (f' := (mkF m 141 #[.val (.int p0), .val (.int p1), .val (.int p2), .val (.int p3), .val (.int p4), .val (.int w5), .val (.int w6), .val (.int z1), .val (.int z2), .val (.int (2 : Int32)), .val (.int (1 : Int32)), .val (.ref r45), .val (.ref r46), .val (.int w13), .val (.int z47), .val (.int (1 : Int32)), .unset, .unset, .unset] [(.ref r45), (.ref b52), (.ref b52)])) (by intro t k; exact XS.aload X52.here hx rfl (hb hby at_139) rfl rfl k) ?_
              refine go (T' := T52) (f' := (mkF m 143 #[.val (.int p0), .val (.int p1), .val (.int p2), .val (.int p3), .val (.int p4), .val (.int w5), .val (.int w6), .val (.int z1), .val (.int z2), .val (.int (2 : Int32)), .val (.int (1 : Int32)), .val (.ref r45), .val (.ref r46), .val (.int w13), .val (.int z47), .val (.int (1 : Int32)), .unset, .unset, .unset] [(.int w13), (.ref r45), (.ref b52), (.ref b52)])) (by intro t k; exact XS.iload X52.here hx rfl (hb hby at_141) rfl k) ?_
              obtain ⟨_, _, ⟨T53, Lz53, kz53, nz53⟩, -, X53, ⟨Lc53, hQ53, lz53, yz53, zz53⟩, st53⟩ := X52.specialBack hx (y := (⟨"com/example/backchain/backchain/model/Predicate", "<init>", "(Ljava/lang/String;I)V"⟩ : MethodName)) rfl hown (mvT hZ (hw _ (List.mem_of_getElem? (i := 38) rfl))) (mvT hZ (hw _ (List.mem_of_getElem? (i := 39) rfl))) (mvT hZ (hw _ (List.mem_of_getElem? (i := 40) rfl))) (by decide) (backOf (W := 1) (rm8 l Z aw hw [] b52 r45 w13 sb45 [(.int (nar .byte (((nar .char w5)).toInt8.toInt32))), (.int (nar .byte (((nar .char w6)).toInt8.toInt32)))] (2 : Int32) h52 n0 Z52 A52 F52_b52_name F52_b52_arity ge_b52 E52_r45 F52_r45_value A52_sb45 (Ne.symm ne_r45_b52) (Ne.symm ne_sb45_b52) rfl (by decide) ha13) hZ (hw _ (List.mem_of_getElem? (i := 40) rfl)) (hw _ (List.mem_of_getElem? (i := 37) rfl)) (by decide) (by decide)) (g := (mkF m 143 #[.val (.int p0), .val (.int p1), .val (.int p2), .val (.int p3), .val (.int p4), .val (.int w5), .val (.int w6), .val (.int z1), .val (.int z2), .val (.int (2 : Int32)), .val (.int (1 : Int32)), .val (.ref r45), .val (.ref r46), .val (.int w13), .val (.int z47), .val (.int (1 : Int32)), .unset, .unset, .unset] [(.int w13), (.ref r45), (.ref b52), (.ref b52)])) rfl (by rw [hml]; rfl) (Steps.refl _) (a := b52) (argsL := [(.ref r45), (.int w13)]) (rest := [(.ref b52)]) (lenOf pd_28Ljava2flang2fString3bI29V rfl) rfl (by show 2 * 0 + _ ≤ _; exact Nat.le_of_eq rfl) (hb hby at_143) (fun _ _ => ⟨rfl, e52, (by decide : 7 + 0 ≤ _), (by decide : 16 + 0 ≤ _)⟩)
              dsimp only [Pt.U, Pt.locs, Pt.cells, Pt.slots] at X53 lz53 yz53 zz53 st53 hQ53
              subst lz53 yz53 zz53
              obtain ⟨rfl, N53q, K53, Fn53, Fa53⟩ := hQ53
              have E53_r45 := Exa.keep E52_r45 K53
              have E53_r46 := Exa.keep E52_r46 K53
              have E53_b52 := Exa.keep A52 K53
              have F53_r45_coder := Fld.keep F52_r45_coder K53 (ninS ne_r45_b52 nin0)
              have F53_r45_value := Fld.keep F52_r45_value K53 (ninS ne_r45_b52 nin0)
              have F53_r46_coder := Fld.keep F52_r46_coder K53 (ninS ne_r46_b52 nin0)
              have F53_r46_value := Fld.keep F52_r46_value K53 (ninS ne_r46_b52 nin0)
              have A53_sb45 := Ary.keep A52_sb45 K53 (ninS ne_sb45_b52 nin0)
              have A53_sb46 := Ary.keep A52_sb46 K53 (ninS ne_sb46_b52 nin0)
              have O53 : Old Z n0 T53.heap := O52.keep K53 (allS ge_b52 all0)
              have Z53 : n0 ≤ T53.heap.size := Nat.le_trans Z52 K53.1
              have N53 := Fr.app N46 N53q
              refine go (fun _ k => st53.trans k) ?_
              show Run _ _ _ _ _ _ _ T53 (mkF m 146 #[.val (.int p0), .val (.int p1), .val (.int p2), .val (.int p3), .val (.int p4), .val (.int w5), .val (.int w6), .val (.int z1), .val (.int z2), .val (.int (2 : Int32)), .val (.int (1 : Int32)), .val (.ref r45), .val (.ref r46), .val (.int w13), .val (.int z47), .val (.int (1 : Int32)), .unset, .unset, .unset] [(.ref b52)])
              refine go (T' := T53) (f' := (mkF m 148 #[.val (.int p0), .val (.int p1), .val (.int p2), .val (.int p3), .val (.int p4), .val (.int w5), .val (.int w6), .val (.int z1), .val (.int z2), .val (.int (2 : Int32)), .val (.int (1 : Int32)), .val (.ref r45), .val (.ref r46), .val (.int w13), .val (.int z47), .val (.int (1 : Int32)), .val (.ref b52), .unset, .unset] [])) (by intro t k; exact XS.astore X53.here hx rfl (hb hby at_146) rfl rfl (l' := #[.val (.int p0), .val (.int p1), .val (.int p2), .val (.int p3), .val (.int p4), .val (.int w5), .val (.int w6), .val (.int z1), .val (.int z2), .val (.int (2 : Int32)), .val (.int (1 : Int32)), .val (.ref r45), .val (.ref r46), .val (.int w13), .val (.int z47), .val (.int (1 : Int32)), .val (.ref b52), .unset, .unset]) rfl k) ?_
              refine go (T' := T53) (f' := (mkF m 150 #[.val (.int p0), .val (.int p1), .val (.int p2), .val (.int p3), .val (.int p4), .val (.int w5), .val (.int w6), .val (.int z1), .val (.int z2), .val (.int (2 : Int32)), .val (.int (1 : Int32)), .val (.ref r45), .val (.ref r46), .val (.int w13), .val (.int z47), .val (.int (1 : Int32)), .val (.ref b52), .unset, .unset] [(.int (1 : Int32))])) (by intro t k; exact XS.iload X53.here hx rfl (hb hby at_148) rfl k) ?_
              refine go (T' := T53) (f' := (mkF m 161 #[.val (.int p0), .val (.int p1), .val (.int p2), .val (.int p3), .val (.int p4), .val (.int w5), .val (.int w6), .val (.int z1), .val (.int z2), .val (.int (2 : Int32)), .val (.int (1 : Int32)), .val (.ref r45), .val (.ref r46), .val (.int w13), .val (.int z47), .val (.int (1 : Int32)), .val (.ref b52), .unset, .unset] [])) (by intro t k; exact XS.ifYes X53.here hx rfl (pc0 := 150) (pc' := 161) rfl (hb hby at_150) rfl ((if0 _ _).trans (feq (by decide : ¬ ((1 : Int32) = (0 : Int32)))).2) (by decide) (by decide) k) ?_
              refine go (T' := T53) (f' := (mkF m 163 #[.val (.int p0), .val (.int p1), .val (.int p2), .val (.int p3), .val (.int p4), .val (.int w5), .val (.int w6), .val (.int z1), .val (.int z2), .val (.int (2 : Int32)), .val (.int (1 : Int32)), .val (.ref r45), .val (.ref r46), .val (.int w13), .val (.int z47), .val (.int (1 : Int32)), .val (.ref b52), .unset, .unset] [(.int (1 : Int32))])) (by intro t k; exact XS.iload X53.here hx rfl (hb hby at_161) rfl k) ?_
              refine go (T' := T53) (f' := (mkF m 164 #[.val (.int p0), .val (.int p1), .val (.int p2), .val (.int p3), .val (.int p4), .val (.int w5), .val (.int w6), .val (.int z1), .val (.int z2), .val (.int (2 : Int32)), .val (.int (1 : Int32)), .val (.ref r45), .val (.ref r46), .val (.int w13), .val (.int z47), .val (.int (1 : Int32)), .val (.ref b52), .unset, .unset] [(.int (2 : Int32)), (.int (1 : Int32))])) (by intro t k; exact XS.iconst X53.here hx rfl (hb hby at_163) k) ?_
              refine go (T' := T53) (f' := (mkF m 183 #[.val (.int p0), .val (.int p1), .val (.int p2), .val (.int p3), .val (.int p4), .val (.int w5), .val (.int w6), .val (.int z1), .val (.int z2), .val (.int (2 : Int32)), .val (.int (1 : Int32)), .val (.ref r45), .val (.ref r46), .val (.int w13), .val (.int z47), .val (.int (1 : Int32)), .val (.ref b52), .unset, .unset] [])) (by intro t k; exact XS.icmpYes X53.here hx rfl (pc0 := 164) (pc' := 183) rfl (hb hby at_164) rfl (feq (by decide : ¬ ((1 : Int32) = (2 : Int32)))).2 (by decide) (by decide) k) ?_
              refine go (T' := T53) (f' := (mkF m 185 #[.val (.int p0), .val (.int p1), .val (.int p2), .val (.int p3), .val (.int p4), .val (.int w5), .val (.int w6), .val (.int z1), .val (.int z2), .val (.int (2 : Int32)), .val (.int (1 : Int32)), .val (.ref r45), .val (.ref r46), .val (.int w13), .val (.int z47), .val (.int (1 : Int32)), .val (.ref b52), .unset, .unset] [(.int (1 : Int32))])) (by intro t k; exact XS.iload X53.here hx rfl (hb hby at_183) rfl k) ?_
              refine go (T' := T53) (f' := (mkF m 186 #[.val (.int p0), .val (.int p1), .val (.int p2), .val (.int p3), .val (.int p4), .val (.int w5), .val (.int w6), .val (.int z1), .val (.int z2), .val (.int (2 : Int32)), .val (.int (1 : Int32)), .val (.ref r45), .val (.ref r46), .val (.int w13), .val (.int z47), .val (.int (1 : Int32)), .val (.ref b52), .unset, .unset] [(.int (3 : Int32)), (.int (1 : Int32))])) (by intro t k; exact XS.iconst X53.here hx rfl (hb hby at_185) k) ?_
              refine go (T' := T53) (f' := (mkF m 204 #[.val (.int p0), .val (.int p1), .val (.int p2), .val (.int p3), .val (.int p4), .val (.int w5), .val (.int w6), .val (.int z1), .val (.int z2), .val (.int (2 : Int32)), .val (.int (1 : Int32)), .val (.ref r45), .val (.ref r46), .val (.int w13), .val (.int z47), .val (.int (1 : Int32)), .val (.ref b52), .unset, .unset] [])) (by intro t k; exact XS.icmpYes X53.here hx rfl (pc0 := 186) (pc' := 204) rfl (hb hby at_186) rfl (feq (by decide : ¬ ((1 : Int32) = (3 : Int32)))).2 (by decide) (by decide) k) ?_
              obtain ⟨T54, h54, X54, e54, E54, A54, D54, -, st54⟩ := newO X53 hx hZ hown (hw _ (List.mem_of_getElem? (i := 35) rfl)) (hw _ (List.mem_of_getElem? (i := 36) rfl)) (hw _ (List.mem_of_getElem? (i := 37) rfl)) rfl (g := (mkF m 204 #[.val (.int p0), .val (.int p1), .val (.int p2), .val (.int p3), .val (.int p4), .val (.int w5), .val (.int w6), .val (.int z1), .val (.int z2), .val (.int (2 : Int32)), .val (.int (1 : Int32)), .val (.ref r45), .val (.ref r46), .val (.int w13), .val (.int z47), .val (.int (1 : Int32)), .val (.ref b52), .unset, .unset] [])) rfl (hb hby at_204) (by decide) (by decide)
              obtain ⟨b54, g54⟩ : ∃ z, z = T53.heap.size := ⟨_, rfl⟩
              rw [← g54] at A54 D54 st54
              have ne_r45_b54 : r45 ≠ b54 := Nat.ne_of_lt (Nat.lt_of_lt_of_eq E53_r45.lt g54.symm)
              have ne_r46_b54 : r46 ≠ b54 := Nat.ne_of_lt (Nat.lt_of_lt_of_eq E53_r46.lt g54.symm)
              have ne_b52_b54 : b52 ≠ b54 := Nat.ne_of_lt (Nat.lt_of_lt_of_eq E53_b52.lt g54.symm)
              have ne_sb45_b54 : sb45 ≠ b54 := Nat.ne_of_lt (Nat.lt_of_lt_of_eq A53_sb45.lt g54.symm)
              have ne_sb46_b54 : sb46 ≠ b54 := Nat.ne_of_lt (Nat.lt_of_lt_of_eq A53_sb46.lt g54.symm)
              have ge_b54 : n0 ≤ b54 := Nat.le_trans Z53 (Nat.le_of_eq g54.symm)
              have K54 : Keep T53.heap h54 [] := (Keep.refl _ _).ext E54
              have E54_r45 := Exa.keep E53_r45 K54
              have E54_r46 := Exa.keep E53_r46 K54
              have E54_b52 := Exa.keep E53_b52 K54
              have F54_r45_coder := Fld.keep F53_r45_coder K54 nin0
              have F54_r45_value := Fld.keep F53_r45_value K54 nin0
              have F54_r46_coder := Fld.keep F53_r46_coder K54 nin0
              have F54_r46_value := Fld.keep F53_r46_value K54 nin0
              have F54_b52_name := Fld.keep Fn53 K54 nin0
              have F54_b52_arity := Fld.keep Fa53 K54 nin0
              have A54_sb45 := Ary.keep A53_sb45 K54 nin0
              have A54_sb46 := Ary.keep A53_sb46 K54 nin0
              have O54 : Old Z n0 h54 := O53.keep K54 all0
              have Z54 : n0 ≤ h54.size := Nat.le_trans Z53 K54.1
              have F54_b54_name : Fld Z h54 b54 "com/example/backchain/backchain/model/Predicate" "name" "Ljava/lang/String;" .null := D54 (Or.inr (hw _ (List.mem_of_getElem? (i := 48) rfl))) (ty := (.object "java/lang/String")) (by decide)
              have F54_b54_arity : Fld Z h54 b54 "com/example/backchain/backchain/model/Predicate" "arity" "I" (.int (0 : Int32)) := D54 (Or.inr (hw _ (List.mem_of_getElem? (i := 50) rfl))) (ty := .int) (by decide)
              refine go st54 ?_
              show Run _ _ _ _ _ _ _ T54 (mkF m 207 #[.val (.int p0), .val (.int p1), .val (.int p2), .val (.int p3), .val (.int p4), .val (.int w5), .val (.int w6), .val (.int z1), .val (.int z2), .val (.int (2 : Int32)), .val (.int (1 : Int32)), .val (.ref r45), .val (.ref r46), .val (.int w13), .val (.int z47), .val (.int (1 : Int32)), .val (.ref b52), .unset, .unset] [(.ref b54)])
              refine go (T' := T54) (f' := (mkF m 208 #[.val (.int p0), .val (.int p1), .val (.int p2), .val (.int p3), .val (.int p4), .val (.int w5), .val (.int w6), .val (.int z1), .val (.int z2), .val (.int (2 : Int32)), .val (.int (1 : Int32)), .val (.ref r45), .val (.ref r46), .val (.int w13), .val (.int z47), .val (.int (1 : Int32)), .val (.ref b52), .unset, .unset] [(.ref b54), (.ref b54)])) (by intro t k; exact XS.dup X54.here hx rfl (hb hby at_207) rfl rfl k) ?_
              refine go (T' := T54) (f' := (mkF m 210 #[.val (.int p0), .val (.int p1), .val (.int p2), .val (.int p3), .val (.int p4), .val (.int w5), .val (.int w6), .val (.int z1), .val (.int z2), .val (.int (2 : Int32)), .val (.int (1 : Int32)), .val (.ref r45), .val (.ref r46), .val (.int w13), .val (.int z47), .val (.int (1 : Int32)), .val (.ref b52), .unset, .unset] [(.ref r46), (.ref b54), (.ref b54)])) (by intro t k; exact XS.aload X54.here hx rfl (hb hby at_208) rfl rfl k) ?_
              refine go (T' := T54) (f' := (mkF m 212 #[.val (.int p0), .val (.int p1), .val (.int p2), .val (.int p3), .val (.int p4), .val (.int w5), .val (.int w6), .val (.int z1), .val (.int z2), .val (.int (2 : Int32)), .val (.int (1 : Int32)), .val (.ref r45), .val (.ref r46), .val (.int w13), .val (.int z47), .val (.int (1 : Int32)), .val (.ref b52), .unset, .unset] [(.int z47), (.ref r46), (.ref b54), (.ref b54)])) (by intro t k; exact XS.iload X54.here hx rfl (hb hby at_210) rfl k) ?_
              obtain ⟨_, _, ⟨T55, Lz55, kz55, nz55⟩, -, X55, ⟨Lc55, hQ55, lz55, yz55, zz55⟩, st55⟩ := X54.specialBack hx (y := (⟨"com/example/backchain/backchain/model/Predicate", "<init>", "(Ljava/lang/String;I)V"⟩ : MethodName)) rfl hown (mvT hZ (hw _ (List.mem_of_getElem? (i := 38) rfl))) (mvT hZ (hw _ (List.mem_of_getElem? (i := 39) rfl))) (mvT hZ (hw _ (List.mem_of_getElem? (i := 40) rfl))) (by decide) (backOf (W := 1) (rm8 l Z aw hw [] b54 r46 z47 sb46 [(.int (nar .byte (((nar .char z1)).toInt8.toInt32)))] (1 : Int32) h54 n0 Z54 A54 F54_b54_name F54_b54_arity ge_b54 E54_r46 F54_r46_value A54_sb46 (Ne.symm ne_r46_b54) (Ne.symm ne_sb46_b54) rfl (by decide) ha14) hZ (hw _ (List.mem_of_getElem? (i := 40) rfl)) (hw _ (List.mem_of_getElem? (i := 37) rfl)) (by decide) (by decide)) (g := (mkF m 212 #[.val (.int p0), .val (.int p1), .val (.int p2), .val (.int p3), .val (.int p4), .val (.int w5), .val (.int w6), .val (.int z1), .val (.int z2), .val (.int (2 : Int32)), .val (.int (1 : Int32)), .val (.ref r45), .val (.ref r46), .val (.int w13), .val (.int z47), .val (.int (1 : Int32)), .val (.ref b52), .unset, .unset] [(.int z47), (.ref r46), (.ref b54), (.ref b54)])) rfl (by rw [hml]; rfl) (Steps.refl _) (a := b54) (argsL := [(.ref r46), (.int z47)]) (rest := [(.ref b54)]) (lenOf pd_28Ljava2flang2fString3bI29V rfl) rfl (by show 2 * 0 + _ ≤ _; exact Nat.le_of_eq rfl) (hb hby at_212) (fun _ _ => ⟨rfl, e54, (by decide : 8 + 0 ≤ _), (by decide : 18 + 0 ≤ _)⟩)
              dsimp only [Pt.U, Pt.locs, Pt.cells, Pt.slots] at X55 lz55 yz55 zz55 st55 hQ55
              subst lz55 yz55 zz55
              obtain ⟨rfl, N55q, K55, Fn55, Fa55⟩ := hQ55
              have E55_r45 := Exa.keep E54_r45 K55
              have E55_r46 := Exa.keep E54_r46 K55
              have E55_b52 := Exa.keep E54_b52 K55
              have E55_b54 := Exa.keep A54 K55
              have F55_r45_coder := Fld.keep F54_r45_coder K55 (ninS ne_r45_b54 nin0)
              have F55_r45_value := Fld.keep F54_r45_value K55 (ninS ne_r45_b54 nin0)
              have F55_r46_coder := Fld.keep F54_r46_coder K55 (ninS ne_r46_b54 nin0)
              have F55_r46_value := Fld.keep F54_r46_value K55 (ninS ne_r46_b54 nin0)
              have F55_b52_name := Fld.keep F54_b52_name K55 (ninS ne_b52_b54 nin0)
              have F55_b52_arity := Fld.keep F54_b52_arity K55 (ninS ne_b52_b54 nin0)
              have A55_sb45 := Ary.keep A54_sb45 K55 (ninS ne_sb45_b54 nin0)
              have A55_sb46 := Ary.keep A54_sb46 K55 (ninS ne_sb46_b54 nin0)
              have O55 : Old Z n0 T55.heap := O54.keep K55 (allS ge_b54 all0)
              have Z55 : n0 ≤ T55.heap.size := Nat.le_trans Z54 K55.1
              have N55 := Fr.app N53 N55q
              refine go (fun _ k => st55.trans k) ?_
              show Run _ _ _ _ _ _ _ T55 (mkF m 215 #[.val (.int p0), .val (.int p1), .val (.int p2), .val (.int p3), .val (.int p4), .val (.int w5), .val (.int w6), .val (.int z1), .val (.int z2), .val (.int (2 : Int32)), .val (.int (1 : Int32)), .val (.ref r45), .val (.ref r46), .val (.int w13), .val (.int z47), .val (.int (1 : Int32)), .val (.ref b52), .unset, .unset] [(.ref b54)])
              refine go (T' := T55) (f' := (mkF m 217 #[.val (.int p0), .val (.int p1), .val (.int p2), .val (.int p3), .val (.int p4), .val (.int w5), .val (.int w6), .val (.int z1), .val (.int z2), .val (.int (2 : Int32)), .val (.int (1 : Int32)), .val (.ref r45), .val (.ref r46), .val (.int w13), .val (.int z47), .val (.int (1 : Int32)), .val (.ref b52), .val (.ref b54), .unset] [])) (by intro t k; exact XS.astore X55.here hx rfl (hb hby at_215) rfl rfl (l' := #[.val (.int p0), .val (.int p1), .val (.int p2), .val (.int p3), .val (.int p4), .val (.int w5), .val (.int w6), .val (.int z1), .val (.int z2), .val (.int (2 : Int32)), .val (.int (1 : Int32)), .val (.ref r45), .val (.ref r46), .val (.int w13), .val (.int z47), .val (.int (1 : Int32)), .val (.ref b52), .val (.ref b54), .unset]) rfl k) ?_
              refine go (T' := T55) (f' := (mkF m 219 #[.val (.int p0), .val (.int p1), .val (.int p2), .val (.int p3), .val (.int p4), .val (.int w5), .val (.int w6), .val (.int z1), .val (.int z2), .val (.int (2 : Int32)), .val (.int (1 : Int32)), .val (.ref r45), .val (.ref r46), .val (.int w13), .val (.int z47), .val (.int (1 : Int32)), .val (.ref b52), .val (.ref b54), .unset] [(.int w13)])) (by intro t k; exact XS.iload X55.here hx rfl (hb hby at_217) rfl k) ?_
              refine go (T' := T55) (f' := (mkF m 221 #[.val (.int p0), .val (.int p1), .val (.int p2), .val (.int p3), .val (.int p4), .val (.int w5), .val (.int w6), .val (.int z1), .val (.int z2), .val (.int (2 : Int32)), .val (.int (1 : Int32)), .val (.ref r45), .val (.ref r46), .val (.int w13), .val (.int z47), .val (.int (1 : Int32)), .val (.ref b52), .val (.ref b54), .unset] [(.int z47), (.int w13)])) (by intro t k; exact XS.iload X55.here hx rfl (hb hby at_219) rfl k) ?_
              have J221 : Run p e s below (Q0 Z p0 p1 p2 p3 p4 cs h0 n0) room_1.cells room_1.slots T55 (mkF m 256 #[.val (.int p0), .val (.int p1), .val (.int p2), .val (.int p3), .val (.int p4), .val (.int w5), .val (.int w6), .val (.int z1), .val (.int z2), .val (.int (2 : Int32)), .val (.int (1 : Int32)), .val (.ref r45), .val (.ref r46), .val (.int w13), .val (.int z47), .val (.int (1 : Int32)), .val (.ref b52), .val (.ref b54), .unset] [(.int (0 : Int32))]) := by
                show Run _ _ _ _ _ _ _ T55 (mkF m 256 #[.val (.int p0), .val (.int p1), .val (.int p2), .val (.int p3), .val (.int p4), .val (.int w5), .val (.int w6), .val (.int z1), .val (.int z2), .val (.int (2 : Int32)), .val (.int (1 : Int32)), .val (.ref r45), .val (.ref r46), .val (.int w13), .val (.int z47), .val (.int (1 : Int32)), .val (.ref b52), .val (.ref b54), .unset] [(.int (0 : Int32))])
                refine go (T' := T55) (f' := (mkF m 258 #[.val (.int p0), .val (.int p1), .val (.int p2), .val (.int p3), .val (.int p4), .val (.int w5), .val (.int w6), .val (.int z1), .val (.int z2), .val (.int (2 : Int32)), .val (.int (1 : Int32)), .val (.ref r45), .val (.ref r46), .val (.int w13), .val (.int z47), .val (.int (1 : Int32)), .val (.ref b52), .val (.ref b54), .val (.int (0 : Int32))] [])) (by intro t k; exact XS.istore X55.here hx rfl (hb hby at_256) rfl (l' := #[.val (.int p0), .val (.int p1), .val (.int p2), .val (.int p3), .val (.int p4), .val (.int w5), .val (.int w6), .val (.int z1), .val (.int z2), .val (.int (2 : Int32)), .val (.int (1 : Int32)), .val (.ref r45), .val (.ref r46), .val (.int w13), .val (.int z47), .val (.int (1 : Int32)), .val (.ref b52), .val (.ref b54), .val (.int (0 : Int32))]) rfl k) ?_
                refine go (T' := T55) (f' := (mkF m 260 #[.val (.int p0), .val (.int p1), .val (.int p2), .val (.int p3), .val (.int p4), .val (.int w5), .val (.int w6), .val (.int z1), .val (.int z2), .val (.int (2 : Int32)), .val (.int (1 : Int32)), .val (.ref r45), .val (.ref r46), .val (.int w13), .val (.int z47), .val (.int (1 : Int32)), .val (.ref b52), .val (.ref b54), .val (.int (0 : Int32))] [(.ref b52)])) (by intro t k; exact XS.aload X55.here hx rfl (hb hby at_258) rfl rfl k) ?_
                refine go (T' := T55) (f' := (mkF m 262 #[.val (.int p0), .val (.int p1), .val (.int p2), .val (.int p3), .val (.int p4), .val (.int w5), .val (.int w6), .val (.int z1), .val (.int z2), .val (.int (2 : Int32)), .val (.int (1 : Int32)), .val (.ref r45), .val (.ref r46), .val (.int w13), .val (.int z47), .val (.int (1 : Int32)), .val (.ref b52), .val (.ref b54), .val (.int (0 : Int32))] [(.ref b54), (.ref b52)])) (by intro t k; exact XS.aload X55.here hx rfl (hb hby at_260) rfl rfl k) ?_
                obtain ⟨cq56, kq56, q56a, q56b, q56c⟩ := isOf hZ rfl E55_b52
                obtain ⟨_, _, ⟨T56, Lz56, kz56, nz56⟩, -, X56, ⟨Lc56, hQ56, lz56, yz56, zz56⟩, st56⟩ := X55.virtualBack hx (y := (⟨"com/example/backchain/backchain/model/Predicate", "equals", "(Ljava/lang/Object;)Z"⟩ : MethodName)) (z := (⟨"com/example/backchain/backchain/model/Predicate", "equals", "(Ljava/lang/Object;)Z"⟩ : MethodName)) hown (mvT hZ (hw _ (List.mem_of_getElem? (i := 51) rfl))) (mvT hZ (hw _ (List.mem_of_getElem? (i := 52) rfl))) (notFace_of_selects (args := #[]) (mvT hZ (hw _ (List.mem_of_getElem? (i := 54) rfl)))) (mvT hZ (hw _ (List.mem_of_getElem? (i := 54) rfl))) (mvT hZ (hw _ (List.mem_of_getElem? (i := 53) rfl))) (by decide) (backOf (W := 0) (rm10n21 l Z aw hw [] b52 b54 cs w13 z47 r45 r46 sb45 sb46 (nar .byte (((nar .char w5)).toInt8.toInt32)) (nar .byte (((nar .char w6)).toInt8.toInt32)) (nar .byte (((nar .char z1)).toInt8.toInt32)) T55.heap n0 Z55 O55 S_cs hcs E55_b52 F55_b52_name F55_b52_arity E55_b54 Fn55 Fa55 E55_r45 F55_r45_coder F55_r45_value A55_sb45 E55_r46 F55_r46_coder F55_r46_value A55_sb46 ne_b52_b54 ne_r45_r46) hZ (hw _ (List.mem_of_getElem? (i := 55) rfl)) (hw _ (List.mem_of_getElem? (i := 37) rfl)) (by decide) (by decide)) q56a q56c (g := (mkF m 262 #[.val (.int p0), .val (.int p1), .val (.int p2), .val (.int p3), .val (.int p4), .val (.int w5), .val (.int w6), .val (.int z1), .val (.int z2), .val (.int (2 : Int32)), .val (.int (1 : Int32)), .val (.ref r45), .val (.ref r46), .val (.int w13), .val (.int z47), .val (.int (1 : Int32)), .val (.ref b52), .val (.ref b54), .val (.int (0 : Int32))] [(.ref b54), (.ref b52)])) rfl (by rw [hml]; rfl) (Steps.refl _) (argsL := [(.ref b54)]) (rest := []) (lenOf pd_28Ljava2flang2fObject3b29Z rfl) rfl (by show 2 * 0 + _ ≤ _; exact Nat.le_of_eq rfl) (hb hby at_262) (fun _ _ => ⟨rfl, rfl, (by decide : 8 + 0 ≤ _), (by decide : 18 + 0 ≤ _)⟩)
                dsimp only [Pt.U, Pt.locs, Pt.cells, Pt.slots] at X56 lz56 yz56 zz56 st56 hQ56
                subst lz56 yz56 zz56
                obtain ⟨rfl, N56q, e56⟩ := hQ56
                have N56 := Fr.app N55 N56q
                refine go (fun _ k => st56.trans k) ?_
                show Run _ _ _ _ _ _ _ T56 (mkF m 265 #[.val (.int p0), .val (.int p1), .val (.int p2), .val (.int p3), .val (.int p4), .val (.int w5), .val (.int w6), .val (.int z1), .val (.int z2), .val (.int (2 : Int32)), .val (.int (1 : Int32)), .val (.ref r45), .val (.ref r46), .val (.int w13), .val (.int z47), .val (.int (1 : Int32)), .val (.ref b52), .val (.ref b54), .val (.int (0 : Int32))] [(.int (0 : Int32))])
                refine go (T' := T56) (f' := (mkF m 267 #[.val (.int p0), .val (.int p1), .val (.int p2), .val (.int p3), .val (.int p4), .val (.int w5), .val (.int w6), .val (.int z1), .val (.int z2), .val (.int (2 : Int32)), .val (.int (1 : Int32)), .val (.ref r45), .val (.ref r46), .val (.int w13), .val (.int z47), .val (.int (1 : Int32)), .val (.ref b52), .val (.ref b54), .val (.int (0 : Int32))] [(.int (0 : Int32)), (.int (0 : Int32))])) (by intro t k; exact XS.iload X56.here hx rfl (hb hby at_265) rfl k) ?_
                refine go (T' := T56) (f' := (mkF m 270 #[.val (.int p0), .val (.int p1), .val (.int p2), .val (.int p3), .val (.int p4), .val (.int w5), .val (.int w6), .val (.int z1), .val (.int z2), .val (.int (2 : Int32)), .val (.int (1 : Int32)), .val (.ref r45), .val (.ref r46), .val (.int w13), .val (.int z47), .val (.int (1 : Int32)), .val (.ref b52), .val (.ref b54), .val (.int (0 : Int32))] [])) (by intro t k; exact XS.icmpNo X56.here hx rfl (hb hby at_267) rfl (teq ((rfl : _) : (0 : Int32) = (0 : Int32))).2 k) ?_
                refine go (T' := T56) (f' := (mkF m 272 #[.val (.int p0), .val (.int p1), .val (.int p2), .val (.int p3), .val (.int p4), .val (.int w5), .val (.int w6), .val (.int z1), .val (.int z2), .val (.int (2 : Int32)), .val (.int (1 : Int32)), .val (.ref r45), .val (.ref r46), .val (.int w13), .val (.int z47), .val (.int (1 : Int32)), .val (.ref b52), .val (.ref b54), .val (.int (0 : Int32))] [(.ref b54)])) (by intro t k; exact XS.aload X56.here hx rfl (hb hby at_270) rfl rfl k) ?_
                refine go (T' := T56) (f' := (mkF m 274 #[.val (.int p0), .val (.int p1), .val (.int p2), .val (.int p3), .val (.int p4), .val (.int w5), .val (.int w6), .val (.int z1), .val (.int z2), .val (.int (2 : Int32)), .val (.int (1 : Int32)), .val (.ref r45), .val (.ref r46), .val (.int w13), .val (.int z47), .val (.int (1 : Int32)), .val (.ref b52), .val (.ref b54), .val (.int (0 : Int32))] [(.ref b52), (.ref b54)])) (by intro t k; exact XS.aload X56.here hx rfl (hb hby at_272) rfl rfl k) ?_
                obtain ⟨cq57, kq57, q57a, q57b, q57c⟩ := isOf hZ e56 E55_b54
                obtain ⟨_, _, ⟨T57, Lz57, kz57, nz57⟩, -, X57, ⟨Lc57, hQ57, lz57, yz57, zz57⟩, st57⟩ := X56.virtualBack hx (y := (⟨"com/example/backchain/backchain/model/Predicate", "equals", "(Ljava/lang/Object;)Z"⟩ : MethodName)) (z := (⟨"com/example/backchain/backchain/model/Predicate", "equals", "(Ljava/lang/Object;)Z"⟩ : MethodName)) hown (mvT hZ (hw _ (List.mem_of_getElem? (i := 51) rfl))) (mvT hZ (hw _ (List.mem_of_getElem? (i := 52) rfl))) (notFace_of_selects (args := #[]) (mvT hZ (hw _ (List.mem_of_getElem? (i := 54) rfl)))) (mvT hZ (hw _ (List.mem_of_getElem? (i := 54) rfl))) (mvT hZ (hw _ (List.mem_of_getElem? (i := 53) rfl))) (by decide) (backOf (W := 0) (rm10n12 l Z aw hw [] b54 b52 cs z47 w13 r46 r45 sb46 sb45 (nar .byte (((nar .char z1)).toInt8.toInt32)) (nar .byte (((nar .char w5)).toInt8.toInt32)) (nar .byte (((nar .char w6)).toInt8.toInt32)) T55.heap n0 Z55 O55 S_cs hcs E55_b54 Fn55 Fa55 E55_b52 F55_b52_name F55_b52_arity E55_r46 F55_r46_coder F55_r46_value A55_sb46 E55_r45 F55_r45_coder F55_r45_value A55_sb45 (Ne.symm ne_b52_b54) (Ne.symm ne_r45_r46)) hZ (hw _ (List.mem_of_getElem? (i := 55) rfl)) (hw _ (List.mem_of_getElem? (i := 37) rfl)) (by decide) (by decide)) q57a q57c (g := (mkF m 274 #[.val (.int p0), .val (.int p1), .val (.int p2), .val (.int p3), .val (.int p4), .val (.int w5), .val (.int w6), .val (.int z1), .val (.int z2), .val (.int (2 : Int32)), .val (.int (1 : Int32)), .val (.ref r45), .val (.ref r46), .val (.int w13), .val (.int z47), .val (.int (1 : Int32)), .val (.ref b52), .val (.ref b54), .val (.int (0 : Int32))] [(.ref b52), (.ref b54)])) rfl (by rw [hml]; rfl) (Steps.refl _) (argsL := [(.ref b52)]) (rest := []) (lenOf pd_28Ljava2flang2fObject3b29Z rfl) rfl (by show 2 * 0 + _ ≤ _; exact Nat.le_of_eq rfl) (hb hby at_274) (fun _ _ => ⟨rfl, e56, (by decide : 8 + 0 ≤ _), (by decide : 18 + 0 ≤ _)⟩)
                dsimp only [Pt.U, Pt.locs, Pt.cells, Pt.slots] at X57 lz57 yz57 zz57 st57 hQ57
                subst lz57 yz57 zz57
                obtain ⟨rfl, N57q, e57⟩ := hQ57
                have N57 := Fr.app N56 N57q
                refine go (fun _ k => st57.trans k) ?_
                show Run _ _ _ _ _ _ _ T57 (mkF m 277 #[.val (.int p0), .val (.int p1), .val (.int p2), .val (.int p3), .val (.int p4), .val (.int w5), .val (.int w6), .val (.int z1), .val (.int z2), .val (.int (2 : Int32)), .val (.int (1 : Int32)), .val (.ref r45), .val (.ref r46), .val (.int w13), .val (.int z47), .val (.int (1 : Int32)), .val (.ref b52), .val (.ref b54), .val (.int (0 : Int32))] [(.int (0 : Int32))])
                refine go (T' := T57) (f' := (mkF m 279 #[.val (.int p0), .val (.int p1), .val (.int p2), .val (.int p3), .val (.int p4), .val (.int w5), .val (.int w6), .val (.int z1), .val (.int z2), .val (.int (2 : Int32)), .val (.int (1 : Int32)), .val (.ref r45), .val (.ref r46), .val (.int w13), .val (.int z47), .val (.int (1 : Int32)), .val (.ref b52), .val (.ref b54), .val (.int (0 : Int32))] [(.int (0 : Int32)), (.int (0 : Int32))])) (by intro t k; exact XS.iload X57.here hx rfl (hb hby at_277) rfl k) ?_
                refine go (T' := T57) (f' := (mkF m 282 #[.val (.int p0), .val (.int p1), .val (.int p2), .val (.int p3), .val (.int p4), .val (.int w5), .val (.int w6), .val (.int z1), .val (.int z2), .val (.int (2 : Int32)), .val (.int (1 : Int32)), .val (.ref r45), .val (.ref r46), .val (.int w13), .val (.int z47), .val (.int (1 : Int32)), .val (.ref b52), .val (.ref b54), .val (.int (0 : Int32))] [])) (by intro t k; exact XS.icmpNo X57.here hx rfl (hb hby at_279) rfl (teq ((rfl : _) : (0 : Int32) = (0 : Int32))).2 k) ?_
                refine go (T' := T57) (f' := (mkF m 283 #[.val (.int p0), .val (.int p1), .val (.int p2), .val (.int p3), .val (.int p4), .val (.int w5), .val (.int w6), .val (.int z1), .val (.int z2), .val (.int (2 : Int32)), .val (.int (1 : Int32)), .val (.ref r45), .val (.ref r46), .val (.int w13), .val (.int z47), .val (.int (1 : Int32)), .val (.ref b52), .val (.ref b54), .val (.int (0 : Int32))] [(.int (1 : Int32))])) (by intro t k; exact XS.iconst X57.here hx rfl (hb hby at_282) k) ?_
                refine go (T' := T57) (f' := (mkF m 287 #[.val (.int p0), .val (.int p1), .val (.int p2), .val (.int p3), .val (.int p4), .val (.int w5), .val (.int w6), .val (.int z1), .val (.int z2), .val (.int (2 : Int32)), .val (.int (1 : Int32)), .val (.ref r45), .val (.ref r46), .val (.int w13), .val (.int z47), .val (.int (1 : Int32)), .val (.ref b52), .val (.ref b54), .val (.int (0 : Int32))] [(.int (1 : Int32))])) (by intro t k; exact XS.goto X57.here hx rfl (pc0 := 283) (pc' := 287) rfl (hb hby at_283) (by decide) (by decide) k) ?_
                refine retZ X57 hx (t := .boolean) Bd.returns (by simp) (hb hby at_287) hlk (by decide) (by decide) ?_
                show Q0 Z p0 p1 p2 p3 p4 cs h0 n0 _ T57.heap _
                rw [e57]
                have hv' : (nar .boolean (1 : Int32)) = (1 : Int32) := by
                  rfl
                have hv : (some (.int (nar .boolean (1 : Int32))) : Option Value) = some (.int (1 : Int32)) := congrArg (fun z => (some (.int z) : Option Value)) hv'
                exact ⟨hv, N57⟩
              show Run _ _ _ _ _ _ _ T55 (mkF m 221 #[.val (.int p0), .val (.int p1), .val (.int p2), .val (.int p3), .val (.int p4), .val (.int w5), .val (.int w6), .val (.int z1), .val (.int z2), .val (.int (2 : Int32)), .val (.int (1 : Int32)), .val (.ref r45), .val (.ref r46), .val (.int w13), .val (.int z47), .val (.int (1 : Int32)), .val (.ref b52), .val (.ref b54), .unset] [(.int z47), (.int w13)])
              by_cases hc221 : w13 = z47
              · refine go (T' := T55) (f' := (mkF m 224 #[.val (.int p0), .val (.int p1), .val (.int p2), .val (.int p3), .val (.int p4), .val (.int w5), .val (.int w6), .val (.int z1), .val (.int z2), .val (.int (2 : Int32)), .val (.int (1 : Int32)), .val (.ref r45), .val (.ref r46), .val (.int w13), .val (.int z47), .val (.int (1 : Int32)), .val (.ref b52), .val (.ref b54), .unset] [])) (by intro t k; exact XS.icmpNo X55.here hx rfl (hb hby at_221) rfl (teq hc221).2 k) ?_
                refine go (T' := T55) (f' := (mkF m 226 #[.val (.int p0), .val (.int p1), .val (.int p2), .val (.int p3), .val (.int p4), .val (.int w5), .val (.int w6), .val (.int z1), .val (.int z2), .val (.int (2 : Int32)), .val (.int (1 : Int32)), .val (.ref r45), .val (.ref r46), .val (.int w13), .val (.int z47), .val (.int (1 : Int32)), .val (.ref b52), .val (.ref b54), .unset] [(.int (2 : Int32))])) (by intro t k; exact XS.iload X55.here hx rfl (hb hby at_224) rfl k) ?_
                refine go (T' := T55) (f' := (mkF m 228 #[.val (.int p0), .val (.int p1), .val (.int p2), .val (.int p3), .val (.int p4), .val (.int w5), .val (.int w6), .val (.int z1), .val (.int z2), .val (.int (2 : Int32)), .val (.int (1 : Int32)), .val (.ref r45), .val (.ref r46), .val (.int w13), .val (.int z47), .val (.int (1 : Int32)), .val (.ref b52), .val (.ref b54), .unset] [(.int (1 : Int32)), (.int (2 : Int32))])) (by intro t k; exact XS.iload X55.here hx rfl (hb hby at_226) rfl k) ?_
                refine go (T' := T55) (f' := (mkF m 255 #[.val (.int p0), .val (.int p1), .val (.int p2), .val (.int p3), .val (.int p4), .val (.int w5), .val (.int w6), .val (.int z1), .val (.int z2), .val (.int (2 : Int32)), .val (.int (1 : Int32)), .val (.ref r45), .val (.ref r46), .val (.int w13), .val (.int z47), .val (.int (1 : Int32)), .val (.ref b52), .val (.ref b54), .unset] [])) (by intro t k; exact XS.icmpYes X55.here hx rfl (pc0 := 228) (pc' := 255) rfl (hb hby at_228) rfl (feq (by decide : ¬ ((2 : Int32) = (1 : Int32)))).2 (by decide) (by decide) k) ?_
                refine go (T' := T55) (f' := (mkF m 256 #[.val (.int p0), .val (.int p1), .val (.int p2), .val (.int p3), .val (.int p4), .val (.int w5), .val (.int w6), .val (.int z1), .val (.int z2), .val (.int (2 : Int32)), .val (.int (1 : Int32)), .val (.ref r45), .val (.ref r46), .val (.int w13), .val (.int z47), .val (.int (1 : Int32)), .val (.ref b52), .val (.ref b54), .unset] [(.int (0 : Int32))])) (by intro t k; exact XS.iconst X55.here hx rfl (hb hby at_255) k) ?_
                exact J221
              · refine go (T' := T55) (f' := (mkF m 255 #[.val (.int p0), .val (.int p1), .val (.int p2), .val (.int p3), .val (.int p4), .val (.int w5), .val (.int w6), .val (.int z1), .val (.int z2), .val (.int (2 : Int32)), .val (.int (1 : Int32)), .val (.ref r45), .val (.ref r46), .val (.int w13), .val (.int z47), .val (.int (1 : Int32)), .val (.ref b52), .val (.ref b54), .unset] [])) (by intro t k; exact XS.icmpYes X55.here hx rfl (pc0 := 221) (pc' := 255) rfl (hb hby at_221) rfl (feq hc221).2 (by decide) (by decide) k) ?_
                refine go (T' := T55) (f' := (mkF m 256 #[.val (.int p0), .val (.int p1), .val (.int p2), .val (.int p3), .val (.int p4), .val (.int w5), .val (.int w6), .val (.int z1), .val (.int z2), .val (.int (2 : Int32)), .val (.int (1 : Int32)), .val (.ref r45), .val (.ref r46), .val (.int w13), .val (.int z47), .val (.int (1 : Int32)), .val (.ref b52), .val (.ref b54), .unset] [(.int (0 : Int32))])) (by intro t k; exact XS.iconst X55.here hx rfl (hb hby at_255) k) ?_
                exact J221
            · subst ez
              show Run _ _ _ _ _ _ _ T46 (mkF m 135 #[.val (.int p0), .val (.int p1), .val (.int p2), .val (.int p3), .val (.int p4), .val (.int w5), .val (.int w6), .val (.int z1), .val (.int z2), .val (.int (2 : Int32)), .val (.int (1 : Int32)), .val (.ref r45), .val (.ref r46), .val (.int w13), .val (.int z47), .val (.int (2 : Int32)), .unset, .unset, .unset] [])
              obtain ⟨T58, h58, X58, e58, E58, A58, D58, -, st58⟩ := newO X46 hx hZ hown (hw _ (List.mem_of_getElem? (i := 35) rfl)) (hw _ (List.mem_of_getElem? (i := 36) rfl)) (hw _ (List.mem_of_getElem? (i := 37) rfl)) rfl (g := (mkF m 135 #[.val (.int p0), .val (.int p1), .val (.int p2), .val (.int p3), .val (.int p4), .val (.int w5), .val (.int w6), .val (.int z1), .val (.int z2), .val (.int (2 : Int32)), .val (.int (1 : Int32)), .val (.ref r45), .val (.ref r46), .val (.int w13), .val (.int z47), .val (.int (2 : Int32)), .unset, .unset, .unset] [])) rfl (hb hby at_135) (by decide) (by decide)
              obtain ⟨b58, g58⟩ : ∃ z, z = T46.heap.size := ⟨_, rfl⟩
              rw [← g58] at A58 D58 st58
              have ne_r45_b58 : r45 ≠ b58 := Nat.ne_of_lt (Nat.lt_of_lt_of_eq E46_r45.lt g58.symm)
              have ne_r46_b58 : r46 ≠ b58 := Nat.ne_of_lt (Nat.lt_of_lt_of_eq E46.lt g58.symm)
              have ne_sb45_b58 : sb45 ≠ b58 := Nat.ne_of_lt (Nat.lt_of_lt_of_eq A46_sb45.lt g58.symm)
              have ne_sb46_b58 : sb46 ≠ b58 := Nat.ne_of_lt (Nat.lt_of_lt_of_eq Ab46.lt g58.symm)
              have ge_b58 : n0 ≤ b58 := Nat.le_trans Z46 (Nat.le_of_eq g58.symm)
              have K58 : Keep T46.heap h58 [] := (Keep.refl _ _).ext E58
              have E58_r45 := Exa.keep E46_r45 K58
              have E58_r46 := Exa.keep E46 K58
              have F58_r45_coder := Fld.keep F46_r45_coder K58 nin0
              have F58_r45_value := Fld.keep F46_r45_value K58 nin0
              have F58_r46_coder := Fld.keep Fc46 K58 nin0
              have F58_r46_value := Fld.keep Fv46 K58 nin0
              have A58_sb45 := Ary.keep A46_sb45 K58 nin0
              have A58_sb46 := Ary.keep Ab46 K58 nin0
              have O58 : Old Z n0 h58 := O46.keep K58 all0
              have Z58 : n0 ≤ h58.size := Nat.le_trans Z46 K58.1
              have F58_b58_name : Fld Z h58 b58 "com/example/backchain/backchain/model/Predicate" "name" "Ljava/lang/String;" .null := D58 (Or.inr (hw _ (List.mem_of_getElem? (i := 48) rfl))) (ty := (.object "java/lang/String")) (by decide)
              have F58_b58_arity : Fld Z h58 b58 "com/example/backchain/backchain/model/Predicate" "arity" "I" (.int (0 : Int32)) := D58 (Or.inr (hw _ (List.mem_of_getElem? (i := 50) rfl))) (ty := .int) (by decide)
              refine go st58 ?_
              show Run _ _ _ _ _ _ _ T58 (mkF m 138 #[.val (.int p0), .val (.int p1), .val (.int p2), .val (.int p3), .val (.int p4), .val (.int w5), .val (.int w6), .val (.int z1), .val (.int z2), .val (.int (2 : Int32)), .val (.int (1 : Int32)), .val (.ref r45), .val (.ref r46), .val (.int w13), .val (.int z47), .val (.int (2 : Int32)), .unset, .unset, .unset] [(.ref b58)])
              refine go (T' := T58) (f' := (mkF m 139 #[.val (.int p0), .val (.int p1), .val (.int p2), .val (.int p3), .val (.int p4), .val (.int w5), .val (.int w6), .val (.int z1), .val (.int z2), .val (.int (2 : Int32)), .val (.int (1 : Int32)), .val (.ref r45), .val (.ref r46), .val (.int w13), .val (.int z47), .val (.int (2 : Int32)), .unset, .unset, .unset] [(.ref b58), (.ref b58)])) (by intro t k; exact XS.dup X58.here hx rfl (hb hby at_138) rfl rfl k) ?_
              refine go (T' := T58) (f' := (mkF m 141 #[.val (.int p0), .val (.int p1), .val (.int p2), .val (.int p3), .val (.int p4), .val (.int w5), .val (.int w6), .val (.int z1), .val (.int z2), .val (.int (2 : Int32)), .val (.int (1 : Int32)), .val (.ref r45), .val (.ref r46), .val (.int w13), .val (.int z47), .val (.int (2 : Int32)), .unset, .unset, .unset] [(.ref r45), (.ref b58), (.ref b58)])) (by intro t k; exact XS.aload X58.here hx rfl (hb hby at_139) rfl rfl k) ?_
              refine go (T' := T58) (f' := (mkF m 143 #[.val (.int p0), .val (.int p1), .val (.int p2), .val (.int p3), .val (.int p4), .val (.int w5), .val (.int w6), .val (.int z1), .val (.int z2), .val (.int (2 : Int32)), .val (.int (1 : Int32)), .val (.ref r45), .val (.ref r46), .val (.int w13), .val (.int z47), .val (.int (2 : Int32)), .unset, .unset, .unset] [(.int w13), (.ref r45), (.ref b58), (.ref b58)])) (by intro t k; exact XS.iload X58.here hx rfl (hb hby at_141) rfl k) ?_
              obtain ⟨_, _, ⟨T59, Lz59, kz59, nz59⟩, -, X59, ⟨Lc59, hQ59, lz59, yz59, zz59⟩, st59⟩ := X58.specialBack hx (y := (⟨"com/example/backchain/backchain/model/Predicate", "<init>", "(Ljava/lang/String;I)V"⟩ : MethodName)) rfl hown (mvT hZ (hw _ (List.mem_of_getElem? (i := 38) rfl))) (mvT hZ (hw _ (List.mem_of_getElem? (i := 39) rfl))) (mvT hZ (hw _ (List.mem_of_getElem? (i := 40) rfl))) (by decide) (backOf (W := 1) (rm8 l Z aw hw [] b58 r45 w13 sb45 [(.int (nar .byte (((nar .char w5)).toInt8.toInt32))), (.int (nar .byte (((nar .char w6)).toInt8.toInt32)))] (2 : Int32) h58 n0 Z58 A58 F58_b58_name F58_b58_arity ge_b58 E58_r45 F58_r45_value A58_sb45 (Ne.symm ne_r45_b58) (Ne.symm ne_sb45_b58) rfl (by decide) ha13) hZ (hw _ (List.mem_of_getElem? (i := 40) rfl)) (hw _ (List.mem_of_getElem? (i := 37) rfl)) (by decide) (by decide)) (g := (mkF m 143 #[.val (.int p0), .val (.int p1), .val (.int p2), .val (.int p3), .val (.int p4), .val (.int w5), .val (.int w6), .val (.int z1), .val (.int z2), .val (.int (2 : Int32)), .val (.int (1 : Int32)), .val (.ref r45), .val (.ref r46), .val (.int w13), .val (.int z47), .val (.int (2 : Int32)), .unset, .unset, .unset] [(.int w13), (.ref r45), (.ref b58), (.ref b58)])) rfl (by rw [hml]; rfl) (Steps.refl _) (a := b58) (argsL := [(.ref r45), (.int w13)]) (rest := [(.ref b58)]) (lenOf pd_28Ljava2flang2fString3bI29V rfl) rfl (by show 2 * 0 + _ ≤ _; exact Nat.le_of_eq rfl) (hb hby at_143) (fun _ _ => ⟨rfl, e58, (by decide : 7 + 0 ≤ _), (by decide : 16 + 0 ≤ _)⟩)
              dsimp only [Pt.U, Pt.locs, Pt.cells, Pt.slots] at X59 lz59 yz59 zz59 st59 hQ59
              subst lz59 yz59 zz59
              obtain ⟨rfl, N59q, K59, Fn59, Fa59⟩ := hQ59
              have E59_r45 := Exa.keep E58_r45 K59
              have E59_r46 := Exa.keep E58_r46 K59
              have E59_b58 := Exa.keep A58 K59
              have F59_r45_coder := Fld.keep F58_r45_coder K59 (ninS ne_r45_b58 nin0)
              have F59_r45_value := Fld.keep F58_r45_value K59 (ninS ne_r45_b58 nin0)
              have F59_r46_coder := Fld.keep F58_r46_coder K59 (ninS ne_r46_b58 nin0)
              have F59_r46_value := Fld.keep F58_r46_value K59 (ninS ne_r46_b58 nin0)
              have A59_sb45 := Ary.keep A58_sb45 K59 (ninS ne_sb45_b58 nin0)
              have A59_sb46 := Ary.keep A58_sb46 K59 (ninS ne_sb46_b58 nin0)
              have O59 : Old Z n0 T59.heap := O58.keep K59 (allS ge_b58 all0)
              have Z59 : n0 ≤ T59.heap.size := Nat.le_trans Z58 K59.1
              have N59 := Fr.app N46 N59q
              refine go (fun _ k => st59.trans k) ?_
              show Run _ _ _ _ _ _ _ T59 (mkF m 146 #[.val (.int p0), .val (.int p1), .val (.int p2), .val (.int p3), .val (.int p4), .val (.int w5), .val (.int w6), .val (.int z1), .val (.int z2), .val (.int (2 : Int32)), .val (.int (1 : Int32)), .val (.ref r45), .val (.ref r46), .val (.int w13), .val (.int z47), .val (.int (2 : Int32)), .unset, .unset, .unset] [(.ref b58)])
              refine go (T' := T59) (f' := (mkF m 148 #[.val (.int p0), .val (.int p1), .val (.int p2), .val (.int p3), .val (.int p4), .val (.int w5), .val (.int w6), .val (.int z1), .val (.int z2), .val (.int (2 : Int32)), .val (.int (1 : Int32)), .val (.ref r45), .val (.ref r46), .val (.int w13), .val (.int z47), .val (.int (2 : Int32)), .val (.ref b58), .unset, .unset] [])) (by intro t k; exact XS.astore X59.here hx rfl (hb hby at_146) rfl rfl (l' := #[.val (.int p0), .val (.int p1), .val (.int p2), .val (.int p3), .val (.int p4), .val (.int w5), .val (.int w6), .val (.int z1), .val (.int z2), .val (.int (2 : Int32)), .val (.int (1 : Int32)), .val (.ref r45), .val (.ref r46), .val (.int w13), .val (.int z47), .val (.int (2 : Int32)), .val (.ref b58), .unset, .unset]) rfl k) ?_
              refine go (T' := T59) (f' := (mkF m 150 #[.val (.int p0), .val (.int p1), .val (.int p2), .val (.int p3), .val (.int p4), .val (.int w5), .val (.int w6), .val (.int z1), .val (.int z2), .val (.int (2 : Int32)), .val (.int (1 : Int32)), .val (.ref r45), .val (.ref r46), .val (.int w13), .val (.int z47), .val (.int (2 : Int32)), .val (.ref b58), .unset, .unset] [(.int (2 : Int32))])) (by intro t k; exact XS.iload X59.here hx rfl (hb hby at_148) rfl k) ?_
              refine go (T' := T59) (f' := (mkF m 161 #[.val (.int p0), .val (.int p1), .val (.int p2), .val (.int p3), .val (.int p4), .val (.int w5), .val (.int w6), .val (.int z1), .val (.int z2), .val (.int (2 : Int32)), .val (.int (1 : Int32)), .val (.ref r45), .val (.ref r46), .val (.int w13), .val (.int z47), .val (.int (2 : Int32)), .val (.ref b58), .unset, .unset] [])) (by intro t k; exact XS.ifYes X59.here hx rfl (pc0 := 150) (pc' := 161) rfl (hb hby at_150) rfl ((if0 _ _).trans (feq (by decide : ¬ ((2 : Int32) = (0 : Int32)))).2) (by decide) (by decide) k) ?_
              refine go (T' := T59) (f' := (mkF m 163 #[.val (.int p0), .val (.int p1), .val (.int p2), .val (.int p3), .val (.int p4), .val (.int w5), .val (.int w6), .val (.int z1), .val (.int z2), .val (.int (2 : Int32)), .val (.int (1 : Int32)), .val (.ref r45), .val (.ref r46), .val (.int w13), .val (.int z47), .val (.int (2 : Int32)), .val (.ref b58), .unset, .unset] [(.int (2 : Int32))])) (by intro t k; exact XS.iload X59.here hx rfl (hb hby at_161) rfl k) ?_
              refine go (T' := T59) (f' := (mkF m 164 #[.val (.int p0), .val (.int p1), .val (.int p2), .val (.int p3), .val (.int p4), .val (.int w5), .val (.int w6), .val (.int z1), .val (.int z2), .val (.int (2 : Int32)), .val (.int (1 : Int32)), .val (.ref r45), .val (.ref r46), .val (.int w13), .val (.int z47), .val (.int (2 : Int32)), .val (.ref b58), .unset, .unset] [(.int (2 : Int32)), (.int (2 : Int32))])) (by intro t k; exact XS.iconst X59.here hx rfl (hb hby at_163) k) ?_
              refine go (T' := T59) (f' := (mkF m 167 #[.val (.int p0), .val (.int p1), .val (.int p2), .val (.int p3), .val (.int p4), .val (.int w5), .val (.int w6), .val (.int z1), .val (.int z2), .val (.int (2 : Int32)), .val (.int (1 : Int32)), .val (.ref r45), .val (.ref r46), .val (.int w13), .val (.int z47), .val (.int (2 : Int32)), .val (.ref b58), .unset, .unset] [])) (by intro t k; exact XS.icmpNo X59.here hx rfl (hb hby at_164) rfl (teq (rfl : (2 : Int32) = (2 : Int32))).2 k) ?_
              refine go (T' := T59) (f' := (mkF m 169 #[.val (.int p0), .val (.int p1), .val (.int p2), .val (.int p3), .val (.int p4), .val (.int w5), .val (.int w6), .val (.int z1), .val (.int z2), .val (.int (2 : Int32)), .val (.int (1 : Int32)), .val (.ref r45), .val (.ref r46), .val (.int w13), .val (.int z47), .val (.int (2 : Int32)), .val (.ref b58), .unset, .unset] [(.ref b58)])) (by intro t k; exact XS.aload X59.here hx rfl (hb hby at_167) rfl rfl k) ?_
              refine go (T' := T59) (f' := (mkF m 171 #[.val (.int p0), .val (.int p1), .val (.int p2), .val (.int p3), .val (.int p4), .val (.int w5), .val (.int w6), .val (.int z1), .val (.int z2), .val (.int (2 : Int32)), .val (.int (1 : Int32)), .val (.ref r45), .val (.ref r46), .val (.int w13), .val (.int z47), .val (.int (2 : Int32)), .val (.ref b58), .unset, .unset] [(.ref r45), (.ref b58)])) (by intro t k; exact XS.aload X59.here hx rfl (hb hby at_169) rfl rfl k) ?_
              obtain ⟨cq60, kq60, q60a, q60b, q60c⟩ := isOf hZ rfl E59_b58
              obtain ⟨_, _, ⟨T60, Lz60, kz60, nz60⟩, -, X60, ⟨Lc60, hQ60, lz60, yz60, zz60⟩, st60⟩ := X59.virtualBack hx (y := (⟨"com/example/backchain/backchain/model/Predicate", "equals", "(Ljava/lang/Object;)Z"⟩ : MethodName)) (z := (⟨"com/example/backchain/backchain/model/Predicate", "equals", "(Ljava/lang/Object;)Z"⟩ : MethodName)) hown (mvT hZ (hw _ (List.mem_of_getElem? (i := 51) rfl))) (mvT hZ (hw _ (List.mem_of_getElem? (i := 52) rfl))) (notFace_of_selects (args := #[]) (mvT hZ (hw _ (List.mem_of_getElem? (i := 54) rfl)))) (mvT hZ (hw _ (List.mem_of_getElem? (i := 54) rfl))) (mvT hZ (hw _ (List.mem_of_getElem? (i := 53) rfl))) (by decide) (backOf (W := 0) (rm10t l Z aw hw [] b58 r45  T59.heap n0 Z59 E59_r45 (Ne.symm ne_r45_b58)) hZ (hw _ (List.mem_of_getElem? (i := 55) rfl)) (hw _ (List.mem_of_getElem? (i := 37) rfl)) (by decide) (by decide)) q60a q60c (g := (mkF m 171 #[.val (.int p0), .val (.int p1), .val (.int p2), .val (.int p3), .val (.int p4), .val (.int w5), .val (.int w6), .val (.int z1), .val (.int z2), .val (.int (2 : Int32)), .val (.int (1 : Int32)), .val (.ref r45), .val (.ref r46), .val (.int w13), .val (.int z47), .val (.int (2 : Int32)), .val (.ref b58), .unset, .unset] [(.ref r45), (.ref b58)])) rfl (by rw [hml]; rfl) (Steps.refl _) (argsL := [(.ref r45)]) (rest := []) (lenOf pd_28Ljava2flang2fObject3b29Z rfl) rfl (by show 2 * 0 + _ ≤ _; exact Nat.le_of_eq rfl) (hb hby at_171) (fun _ _ => ⟨rfl, rfl, (by decide : 7 + 0 ≤ _), (by decide : 16 + 0 ≤ _)⟩)
              dsimp only [Pt.U, Pt.locs, Pt.cells, Pt.slots] at X60 lz60 yz60 zz60 st60 hQ60
              subst lz60 yz60 zz60
              obtain ⟨rfl, N60q, e60⟩ := hQ60
              have N60 := Fr.app N59 N60q
              refine go (fun _ k => st60.trans k) ?_
              show Run _ _ _ _ _ _ _ T60 (mkF m 174 #[.val (.int p0), .val (.int p1), .val (.int p2), .val (.int p3), .val (.int p4), .val (.int w5), .val (.int w6), .val (.int z1), .val (.int z2), .val (.int (2 : Int32)), .val (.int (1 : Int32)), .val (.ref r45), .val (.ref r46), .val (.int w13), .val (.int z47), .val (.int (2 : Int32)), .val (.ref b58), .unset, .unset] [(.int (0 : Int32))])
              refine go (T' := T60) (f' := (mkF m 177 #[.val (.int p0), .val (.int p1), .val (.int p2), .val (.int p3), .val (.int p4), .val (.int w5), .val (.int w6), .val (.int z1), .val (.int z2), .val (.int (2 : Int32)), .val (.int (1 : Int32)), .val (.ref r45), .val (.ref r46), .val (.int w13), .val (.int z47), .val (.int (2 : Int32)), .val (.ref b58), .unset, .unset] [])) (by intro t k; exact XS.ifNo X60.here hx rfl (hb hby at_174) rfl ((if0 _ _).trans (teq (rfl : (0 : Int32) = (0 : Int32))).2) k) ?_
              refine go (T' := T60) (f' := (mkF m 178 #[.val (.int p0), .val (.int p1), .val (.int p2), .val (.int p3), .val (.int p4), .val (.int w5), .val (.int w6), .val (.int z1), .val (.int z2), .val (.int (2 : Int32)), .val (.int (1 : Int32)), .val (.ref r45), .val (.ref r46), .val (.int w13), .val (.int z47), .val (.int (2 : Int32)), .val (.ref b58), .unset, .unset] [(.int (1 : Int32))])) (by intro t k; exact XS.iconst X60.here hx rfl (hb hby at_177) k) ?_
              refine go (T' := T60) (f' := (mkF m 182 #[.val (.int p0), .val (.int p1), .val (.int p2), .val (.int p3), .val (.int p4), .val (.int w5), .val (.int w6), .val (.int z1), .val (.int z2), .val (.int (2 : Int32)), .val (.int (1 : Int32)), .val (.ref r45), .val (.ref r46), .val (.int w13), .val (.int z47), .val (.int (2 : Int32)), .val (.ref b58), .unset, .unset] [(.int (1 : Int32))])) (by intro t k; exact XS.goto X60.here hx rfl (pc0 := 178) (pc' := 182) rfl (hb hby at_178) (by decide) (by decide) k) ?_
              refine retZ X60 hx (t := .boolean) Bd.returns (by simp) (hb hby at_182) hlk (by decide) (by decide) ?_
              show Q0 Z p0 p1 p2 p3 p4 cs h0 n0 _ T60.heap _
              rw [e60]
              have hv' : (nar .boolean (1 : Int32)) = (1 : Int32) := by
                rfl
              have hv : (some (.int (nar .boolean (1 : Int32))) : Option Value) = some (.int (1 : Int32)) := congrArg (fun z => (some (.int z) : Option Value)) hv'
              exact ⟨hv, N60⟩
            · subst ez
              show Run _ _ _ _ _ _ _ T46 (mkF m 135 #[.val (.int p0), .val (.int p1), .val (.int p2), .val (.int p3), .val (.int p4), .val (.int w5), .val (.int w6), .val (.int z1), .val (.int z2), .val (.int (2 : Int32)), .val (.int (1 : Int32)), .val (.ref r45), .val (.ref r46), .val (.int w13), .val (.int z47), .val (.int (3 : Int32)), .unset, .unset, .unset] [])
              obtain ⟨T61, h61, X61, e61, E61, A61, D61, -, st61⟩ := newO X46 hx hZ hown (hw _ (List.mem_of_getElem? (i := 35) rfl)) (hw _ (List.mem_of_getElem? (i := 36) rfl)) (hw _ (List.mem_of_getElem? (i := 37) rfl)) rfl (g := (mkF m 135 #[.val (.int p0), .val (.int p1), .val (.int p2), .val (.int p3), .val (.int p4), .val (.int w5), .val (.int w6), .val (.int z1), .val (.int z2), .val (.int (2 : Int32)), .val (.int (1 : Int32)), .val (.ref r45), .val (.ref r46), .val (.int w13), .val (.int z47), .val (.int (3 : Int32)), .unset, .unset, .unset] [])) rfl (hb hby at_135) (by decide) (by decide)
              obtain ⟨b61, g61⟩ : ∃ z, z = T46.heap.size := ⟨_, rfl⟩
              rw [← g61] at A61 D61 st61
              have ne_r45_b61 : r45 ≠ b61 := Nat.ne_of_lt (Nat.lt_of_lt_of_eq E46_r45.lt g61.symm)
              have ne_r46_b61 : r46 ≠ b61 := Nat.ne_of_lt (Nat.lt_of_lt_of_eq E46.lt g61.symm)
              have ne_sb45_b61 : sb45 ≠ b61 := Nat.ne_of_lt (Nat.lt_of_lt_of_eq A46_sb45.lt g61.symm)
              have ne_sb46_b61 : sb46 ≠ b61 := Nat.ne_of_lt (Nat.lt_of_lt_of_eq Ab46.lt g61.symm)
              have ge_b61 : n0 ≤ b61 := Nat.le_trans Z46 (Nat.le_of_eq g61.symm)
              have K61 : Keep T46.heap h61 [] := (Keep.refl _ _).ext E61
              have E61_r45 := Exa.keep E46_r45 K61
              have E61_r46 := Exa.keep E46 K61
              have F61_r45_coder := Fld.keep F46_r45_coder K61 nin0
              have F61_r45_value := Fld.keep F46_r45_value K61 nin0
              have F61_r46_coder := Fld.keep Fc46 K61 nin0
              have F61_r46_value := Fld.keep Fv46 K61 nin0
              have A61_sb45 := Ary.keep A46_sb45 K61 nin0
              have A61_sb46 := Ary.keep Ab46 K61 nin0
              have O61 : Old Z n0 h61 := O46.keep K61 all0
              have Z61 : n0 ≤ h61.size := Nat.le_trans Z46 K61.1
              have F61_b61_name : Fld Z h61 b61 "com/example/backchain/backchain/model/Predicate" "name" "Ljava/lang/String;" .null := D61 (Or.inr (hw _ (List.mem_of_getElem? (i := 48) rfl))) (ty := (.object "java/lang/String")) (by decide)
              have F61_b61_arity : Fld Z h61 b61 "com/example/backchain/backchain/model/Predicate" "arity" "I" (.int (0 : Int32)) := D61 (Or.inr (hw _ (List.mem_of_getElem? (i := 50) rfl))) (ty := .int) (by decide)
              refine go st61 ?_
              show Run _ _ _ _ _ _ _ T61 (mkF m 138 #[.val (.int p0), .val (.int p1), .val (.int p2), .val (.int p3), .val (.int p4), .val (.int w5), .val (.int w6), .val (.int z1), .val (.int z2), .val (.int (2 : Int32)), .val (.int (1 : Int32)), .val (.ref r45), .val (.ref r46), .val (.int w13), .val (.int z47), .val (.int (3 : Int32)), .unset, .unset, .unset] [(.ref b61)])
              refine go (T' := T61) (f' := (mkF m 139 #[.val (.int p0), .val (.int p1), .val (.int p2), .val (.int p3), .val (.int p4), .val (.int w5), .val (.int w6), .val (.int z1), .val (.int z2), .val (.int (2 : Int32)), .val (.int (1 : Int32)), .val (.ref r45), .val (.ref r46), .val (.int w13), .val (.int z47), .val (.int (3 : Int32)), .unset, .unset, .unset] [(.ref b61), (.ref b61)])) (by intro t k; exact XS.dup X61.here hx rfl (hb hby at_138) rfl rfl k) ?_
              refine go (T' := T61) (f' := (mkF m 141 #[.val (.int p0), .val (.int p1), .val (.int p2), .val (.int p3), .val (.int p4), .val (.int w5), .val (.int w6), .val (.int z1), .val (.int z2), .val (.int (2 : Int32)), .val (.int (1 : Int32)), .val (.ref r45), .val (.ref r46), .val (.int w13), .val (.int z47), .val (.int (3 : Int32)), .unset, .unset, .unset] [(.ref r45), (.ref b61), (.ref b61)])) (by intro t k; exact XS.aload X61.here hx rfl (hb hby at_139) rfl rfl k) ?_
              refine go (T' := T61) (f' := (mkF m 143 #[.val (.int p0), .val (.int p1), .val (.int p2), .val (.int p3), .val (.int p4), .val (.int w5), .val (.int w6), .val (.int z1), .val (.int z2), .val (.int (2 : Int32)), .val (.int (1 : Int32)), .val (.ref r45), .val (.ref r46), .val (.int w13), .val (.int z47), .val (.int (3 : Int32)), .unset, .unset, .unset] [(.int w13), (.ref r45), (.ref b61), (.ref b61)])) (by intro t k; exact XS.iload X61.here hx rfl (hb hby at_141) rfl k) ?_
              obtain ⟨_, _, ⟨T62, Lz62, kz62, nz62⟩, -, X62, ⟨Lc62, hQ62, lz62, yz62, zz62⟩, st62⟩ := X61.specialBack hx (y := (⟨"com/example/backchain/backchain/model/Predicate", "<init>", "(Ljava/lang/String;I)V"⟩ : MethodName)) rfl hown (mvT hZ (hw _ (List.mem_of_getElem? (i := 38) rfl))) (mvT hZ (hw _ (List.mem_of_getElem? (i := 39) rfl))) (mvT hZ (hw _ (List.mem_of_getElem? (i := 40) rfl))) (by decide) (backOf (W := 1) (rm8 l Z aw hw [] b61 r45 w13 sb45 [(.int (nar .byte (((nar .char w5)).toInt8.toInt32))), (.int (nar .byte (((nar .char w6)).toInt8.toInt32)))] (2 : Int32) h61 n0 Z61 A61 F61_b61_name F61_b61_arity ge_b61 E61_r45 F61_r45_value A61_sb45 (Ne.symm ne_r45_b61) (Ne.symm ne_sb45_b61) rfl (by decide) ha13) hZ (hw _ (List.mem_of_getElem? (i := 40) rfl)) (hw _ (List.mem_of_getElem? (i := 37) rfl)) (by decide) (by decide)) (g := (mkF m 143 #[.val (.int p0), .val (.int p1), .val (.int p2), .val (.int p3), .val (.int p4), .val (.int w5), .val (.int w6), .val (.int z1), .val (.int z2), .val (.int (2 : Int32)), .val (.int (1 : Int32)), .val (.ref r45), .val (.ref r46), .val (.int w13), .val (.int z47), .val (.int (3 : Int32)), .unset, .unset, .unset] [(.int w13), (.ref r45), (.ref b61), (.ref b61)])) rfl (by rw [hml]; rfl) (Steps.refl _) (a := b61) (argsL := [(.ref r45), (.int w13)]) (rest := [(.ref b61)]) (lenOf pd_28Ljava2flang2fString3bI29V rfl) rfl (by show 2 * 0 + _ ≤ _; exact Nat.le_of_eq rfl) (hb hby at_143) (fun _ _ => ⟨rfl, e61, (by decide : 7 + 0 ≤ _), (by decide : 16 + 0 ≤ _)⟩)
              dsimp only [Pt.U, Pt.locs, Pt.cells, Pt.slots] at X62 lz62 yz62 zz62 st62 hQ62
              subst lz62 yz62 zz62
              obtain ⟨rfl, N62q, K62, Fn62, Fa62⟩ := hQ62
              have E62_r45 := Exa.keep E61_r45 K62
              have E62_r46 := Exa.keep E61_r46 K62
              have E62_b61 := Exa.keep A61 K62
              have F62_r45_coder := Fld.keep F61_r45_coder K62 (ninS ne_r45_b61 nin0)
              have F62_r45_value := Fld.keep F61_r45_value K62 (ninS ne_r45_b61 nin0)
              have F62_r46_coder := Fld.keep F61_r46_coder K62 (ninS ne_r46_b61 nin0)
              have F62_r46_value := Fld.keep F61_r46_value K62 (ninS ne_r46_b61 nin0)
              have A62_sb45 := Ary.keep A61_sb45 K62 (ninS ne_sb45_b61 nin0)
              have A62_sb46 := Ary.keep A61_sb46 K62 (ninS ne_sb46_b61 nin0)
              have O62 : Old Z n0 T62.heap := O61.keep K62 (allS ge_b61 all0)
              have Z62 : n0 ≤ T62.heap.size := Nat.le_trans Z61 K62.1
              have N62 := Fr.app N46 N62q
              refine go (fun _ k => st62.trans k) ?_
              show Run _ _ _ _ _ _ _ T62 (mkF m 146 #[.val (.int p0), .val (.int p1), .val (.int p2), .val (.int p3), .val (.int p4), .val (.int w5), .val (.int w6), .val (.int z1), .val (.int z2), .val (.int (2 : Int32)), .val (.int (1 : Int32)), .val (.ref r45), .val (.ref r46), .val (.int w13), .val (.int z47), .val (.int (3 : Int32)), .unset, .unset, .unset] [(.ref b61)])
              refine go (T' := T62) (f' := (mkF m 148 #[.val (.int p0), .val (.int p1), .val (.int p2), .val (.int p3), .val (.int p4), .val (.int w5), .val (.int w6), .val (.int z1), .val (.int z2), .val (.int (2 : Int32)), .val (.int (1 : Int32)), .val (.ref r45), .val (.ref r46), .val (.int w13), .val (.int z47), .val (.int (3 : Int32)), .val (.ref b61), .unset, .unset] [])) (by intro t k; exact XS.astore X62.here hx rfl (hb hby at_146) rfl rfl (l' := #[.val (.int p0), .val (.int p1), .val (.int p2), .val (.int p3), .val (.int p4), .val (.int w5), .val (.int w6), .val (.int z1), .val (.int z2), .val (.int (2 : Int32)), .val (.int (1 : Int32)), .val (.ref r45), .val (.ref r46), .val (.int w13), .val (.int z47), .val (.int (3 : Int32)), .val (.ref b61), .unset, .unset]) rfl k) ?_
              refine go (T' := T62) (f' := (mkF m 150 #[.val (.int p0), .val (.int p1), .val (.int p2), .val (.int p3), .val (.int p4), .val (.int w5), .val (.int w6), .val (.int z1), .val (.int z2), .val (.int (2 : Int32)), .val (.int (1 : Int32)), .val (.ref r45), .val (.ref r46), .val (.int w13), .val (.int z47), .val (.int (3 : Int32)), .val (.ref b61), .unset, .unset] [(.int (3 : Int32))])) (by intro t k; exact XS.iload X62.here hx rfl (hb hby at_148) rfl k) ?_
              refine go (T' := T62) (f' := (mkF m 161 #[.val (.int p0), .val (.int p1), .val (.int p2), .val (.int p3), .val (.int p4), .val (.int w5), .val (.int w6), .val (.int z1), .val (.int z2), .val (.int (2 : Int32)), .val (.int (1 : Int32)), .val (.ref r45), .val (.ref r46), .val (.int w13), .val (.int z47), .val (.int (3 : Int32)), .val (.ref b61), .unset, .unset] [])) (by intro t k; exact XS.ifYes X62.here hx rfl (pc0 := 150) (pc' := 161) rfl (hb hby at_150) rfl ((if0 _ _).trans (feq (by decide : ¬ ((3 : Int32) = (0 : Int32)))).2) (by decide) (by decide) k) ?_
              refine go (T' := T62) (f' := (mkF m 163 #[.val (.int p0), .val (.int p1), .val (.int p2), .val (.int p3), .val (.int p4), .val (.int w5), .val (.int w6), .val (.int z1), .val (.int z2), .val (.int (2 : Int32)), .val (.int (1 : Int32)), .val (.ref r45), .val (.ref r46), .val (.int w13), .val (.int z47), .val (.int (3 : Int32)), .val (.ref b61), .unset, .unset] [(.int (3 : Int32))])) (by intro t k; exact XS.iload X62.here hx rfl (hb hby at_161) rfl k) ?_
              refine go (T' := T62) (f' := (mkF m 164 #[.val (.int p0), .val (.int p1), .val (.int p2), .val (.int p3), .val (.int p4), .val (.int w5), .val (.int w6), .val (.int z1), .val (.int z2), .val (.int (2 : Int32)), .val (.int (1 : Int32)), .val (.ref r45), .val (.ref r46), .val (.int w13), .val (.int z47), .val (.int (3 : Int32)), .val (.ref b61), .unset, .unset] [(.int (2 : Int32)), (.int (3 : Int32))])) (by intro t k; exact XS.iconst X62.here hx rfl (hb hby at_163) k) ?_
              refine go (T' := T62) (f' := (mkF m 183 #[.val (.int p0), .val (.int p1), .val (.int p2), .val (.int p3), .val (.int p4), .val (.int w5), .val (.int w6), .val (.int z1), .val (.int z2), .val (.int (2 : Int32)), .val (.int (1 : Int32)), .val (.ref r45), .val (.ref r46), .val (.int w13), .val (.int z47), .val (.int (3 : Int32)), .val (.ref b61), .unset, .unset] [])) (by intro t k; exact XS.icmpYes X62.here hx rfl (pc0 := 164) (pc' := 183) rfl (hb hby at_164) rfl (feq (by decide : ¬ ((3 : Int32) = (2 : Int32)))).2 (by decide) (by decide) k) ?_
              refine go (T' := T62) (f' := (mkF m 185 #[.val (.int p0), .val (.int p1), .val (.int p2), .val (.int p3), .val (.int p4), .val (.int w5), .val (.int w6), .val (.int z1), .val (.int z2), .val (.int (2 : Int32)), .val (.int (1 : Int32)), .val (.ref r45), .val (.ref r46), .val (.int w13), .val (.int z47), .val (.int (3 : Int32)), .val (.ref b61), .unset, .unset] [(.int (3 : Int32))])) (by intro t k; exact XS.iload X62.here hx rfl (hb hby at_183) rfl k) ?_
              refine go (T' := T62) (f' := (mkF m 186 #[.val (.int p0), .val (.int p1), .val (.int p2), .val (.int p3), .val (.int p4), .val (.int w5), .val (.int w6), .val (.int z1), .val (.int z2), .val (.int (2 : Int32)), .val (.int (1 : Int32)), .val (.ref r45), .val (.ref r46), .val (.int w13), .val (.int z47), .val (.int (3 : Int32)), .val (.ref b61), .unset, .unset] [(.int (3 : Int32)), (.int (3 : Int32))])) (by intro t k; exact XS.iconst X62.here hx rfl (hb hby at_185) k) ?_
              refine go (T' := T62) (f' := (mkF m 189 #[.val (.int p0), .val (.int p1), .val (.int p2), .val (.int p3), .val (.int p4), .val (.int w5), .val (.int w6), .val (.int z1), .val (.int z2), .val (.int (2 : Int32)), .val (.int (1 : Int32)), .val (.ref r45), .val (.ref r46), .val (.int w13), .val (.int z47), .val (.int (3 : Int32)), .val (.ref b61), .unset, .unset] [])) (by intro t k; exact XS.icmpNo X62.here hx rfl (hb hby at_186) rfl (teq (rfl : (3 : Int32) = (3 : Int32))).2 k) ?_
              refine go (T' := T62) (f' := (mkF m 191 #[.val (.int p0), .val (.int p1), .val (.int p2), .val (.int p3), .val (.int p4), .val (.int w5), .val (.int w6), .val (.int z1), .val (.int z2), .val (.int (2 : Int32)), .val (.int (1 : Int32)), .val (.ref r45), .val (.ref r46), .val (.int w13), .val (.int z47), .val (.int (3 : Int32)), .val (.ref b61), .unset, .unset] [(.ref b61)])) (by intro t k; exact XS.aload X62.here hx rfl (hb hby at_189) rfl rfl k) ?_
              refine go (T' := T62) (f' := (mkF m 192 #[.val (.int p0), .val (.int p1), .val (.int p2), .val (.int p3), .val (.int p4), .val (.int w5), .val (.int w6), .val (.int z1), .val (.int z2), .val (.int (2 : Int32)), .val (.int (1 : Int32)), .val (.ref r45), .val (.ref r46), .val (.int w13), .val (.int z47), .val (.int (3 : Int32)), .val (.ref b61), .unset, .unset] [.null, (.ref b61)])) (by intro t k; exact XS.aconstNull X62.here hx rfl (hb hby at_191) k) ?_
              obtain ⟨cq63, kq63, q63a, q63b, q63c⟩ := isOf hZ rfl E62_b61
              obtain ⟨_, _, ⟨T63, Lz63, kz63, nz63⟩, -, X63, ⟨Lc63, hQ63, lz63, yz63, zz63⟩, st63⟩ := X62.virtualBack hx (y := (⟨"com/example/backchain/backchain/model/Predicate", "equals", "(Ljava/lang/Object;)Z"⟩ : MethodName)) (z := (⟨"com/example/backchain/backchain/model/Predicate", "equals", "(Ljava/lang/Object;)Z"⟩ : MethodName)) hown (mvT hZ (hw _ (List.mem_of_getElem? (i := 51) rfl))) (mvT hZ (hw _ (List.mem_of_getElem? (i := 52) rfl))) (notFace_of_selects (args := #[]) (mvT hZ (hw _ (List.mem_of_getElem? (i := 54) rfl)))) (mvT hZ (hw _ (List.mem_of_getElem? (i := 54) rfl))) (mvT hZ (hw _ (List.mem_of_getElem? (i := 53) rfl))) (by decide) (backOf (W := 0) (rm10z l Z aw hw [] b61  T62.heap n0 Z62 ) hZ (hw _ (List.mem_of_getElem? (i := 55) rfl)) (hw _ (List.mem_of_getElem? (i := 37) rfl)) (by decide) (by decide)) q63a q63c (g := (mkF m 192 #[.val (.int p0), .val (.int p1), .val (.int p2), .val (.int p3), .val (.int p4), .val (.int w5), .val (.int w6), .val (.int z1), .val (.int z2), .val (.int (2 : Int32)), .val (.int (1 : Int32)), .val (.ref r45), .val (.ref r46), .val (.int w13), .val (.int z47), .val (.int (3 : Int32)), .val (.ref b61), .unset, .unset] [.null, (.ref b61)])) rfl (by rw [hml]; rfl) (Steps.refl _) (argsL := [.null]) (rest := []) (lenOf pd_28Ljava2flang2fObject3b29Z rfl) rfl (by show 2 * 0 + _ ≤ _; exact Nat.le_of_eq rfl) (hb hby at_192) (fun _ _ => ⟨rfl, rfl, (by decide : 7 + 0 ≤ _), (by decide : 16 + 0 ≤ _)⟩)
              dsimp only [Pt.U, Pt.locs, Pt.cells, Pt.slots] at X63 lz63 yz63 zz63 st63 hQ63
              subst lz63 yz63 zz63
              obtain ⟨rfl, N63q, e63⟩ := hQ63
              have N63 := Fr.app N62 N63q
              refine go (fun _ k => st63.trans k) ?_
              show Run _ _ _ _ _ _ _ T63 (mkF m 195 #[.val (.int p0), .val (.int p1), .val (.int p2), .val (.int p3), .val (.int p4), .val (.int w5), .val (.int w6), .val (.int z1), .val (.int z2), .val (.int (2 : Int32)), .val (.int (1 : Int32)), .val (.ref r45), .val (.ref r46), .val (.int w13), .val (.int z47), .val (.int (3 : Int32)), .val (.ref b61), .unset, .unset] [(.int (0 : Int32))])
              refine go (T' := T63) (f' := (mkF m 198 #[.val (.int p0), .val (.int p1), .val (.int p2), .val (.int p3), .val (.int p4), .val (.int w5), .val (.int w6), .val (.int z1), .val (.int z2), .val (.int (2 : Int32)), .val (.int (1 : Int32)), .val (.ref r45), .val (.ref r46), .val (.int w13), .val (.int z47), .val (.int (3 : Int32)), .val (.ref b61), .unset, .unset] [])) (by intro t k; exact XS.ifNo X63.here hx rfl (hb hby at_195) rfl ((if0 _ _).trans (teq (rfl : (0 : Int32) = (0 : Int32))).2) k) ?_
              refine go (T' := T63) (f' := (mkF m 199 #[.val (.int p0), .val (.int p1), .val (.int p2), .val (.int p3), .val (.int p4), .val (.int w5), .val (.int w6), .val (.int z1), .val (.int z2), .val (.int (2 : Int32)), .val (.int (1 : Int32)), .val (.ref r45), .val (.ref r46), .val (.int w13), .val (.int z47), .val (.int (3 : Int32)), .val (.ref b61), .unset, .unset] [(.int (1 : Int32))])) (by intro t k; exact XS.iconst X63.here hx rfl (hb hby at_198) k) ?_
              refine go (T' := T63) (f' := (mkF m 203 #[.val (.int p0), .val (.int p1), .val (.int p2), .val (.int p3), .val (.int p4), .val (.int w5), .val (.int w6), .val (.int z1), .val (.int z2), .val (.int (2 : Int32)), .val (.int (1 : Int32)), .val (.ref r45), .val (.ref r46), .val (.int w13), .val (.int z47), .val (.int (3 : Int32)), .val (.ref b61), .unset, .unset] [(.int (1 : Int32))])) (by intro t k; exact XS.goto X63.here hx rfl (pc0 := 199) (pc' := 203) rfl (hb hby at_199) (by decide) (by decide) k) ?_
              refine retZ X63 hx (t := .boolean) Bd.returns (by simp) (hb hby at_203) hlk (by decide) (by decide) ?_
              show Q0 Z p0 p1 p2 p3 p4 cs h0 n0 _ T63.heap _
              rw [e63]
              have hv' : (nar .boolean (1 : Int32)) = (1 : Int32) := by
                rfl
              have hv : (some (.int (nar .boolean (1 : Int32))) : Option Value) = some (.int (1 : Int32)) := congrArg (fun z => (some (.int z) : Option Value)) hv'
              exact ⟨hv, N63⟩
          show Run _ _ _ _ _ _ _ T46 (mkF m 113 #[.val (.int p0), .val (.int p1), .val (.int p2), .val (.int p3), .val (.int p4), .val (.int w5), .val (.int w6), .val (.int z1), .val (.int z2), .val (.int (2 : Int32)), .val (.int (1 : Int32)), .val (.ref r45), .val (.ref r46), .val (.int w13), .unset, .unset, .unset, .unset, .unset] [(.int (p4 &&& (16 : Int32)))])
          by_cases hc113 : (p4 &&& (16 : Int32)) = (0 : Int32)
          · refine go (T' := T46) (f' := (mkF m 123 #[.val (.int p0), .val (.int p1), .val (.int p2), .val (.int p3), .val (.int p4), .val (.int w5), .val (.int w6), .val (.int z1), .val (.int z2), .val (.int (2 : Int32)), .val (.int (1 : Int32)), .val (.ref r45), .val (.ref r46), .val (.int w13), .unset, .unset, .unset, .unset, .unset] [])) (by intro t k; exact XS.ifYes X46.here hx rfl (pc0 := 113) (pc' := 123) rfl (hb hby at_113) rfl ((if0 _ _).trans (teq hc113).1) (by decide) (by decide) k) ?_
            refine go (T' := T46) (f' := (mkF m 125 #[.val (.int p0), .val (.int p1), .val (.int p2), .val (.int p3), .val (.int p4), .val (.int w5), .val (.int w6), .val (.int z1), .val (.int z2), .val (.int (2 : Int32)), .val (.int (1 : Int32)), .val (.ref r45), .val (.ref r46), .val (.int w13), .unset, .unset, .unset, .unset, .unset] [(.int w13)])) (by intro t k; exact XS.iload X46.here hx rfl (hb hby at_123) rfl k) ?_
            have ez47 : z47 = w13 := (hz47).trans (if_pos hc113)
            subst ez47
            exact J113
          · refine go (T' := T46) (f' := (mkF m 116 #[.val (.int p0), .val (.int p1), .val (.int p2), .val (.int p3), .val (.int p4), .val (.int w5), .val (.int w6), .val (.int z1), .val (.int z2), .val (.int (2 : Int32)), .val (.int (1 : Int32)), .val (.ref r45), .val (.ref r46), .val (.int w13), .unset, .unset, .unset, .unset, .unset] [])) (by intro t k; exact XS.ifNo X46.here hx rfl (hb hby at_113) rfl ((if0 _ _).trans (feq hc113).1) k) ?_
            refine go (T' := T46) (f' := (mkF m 117 #[.val (.int p0), .val (.int p1), .val (.int p2), .val (.int p3), .val (.int p4), .val (.int w5), .val (.int w6), .val (.int z1), .val (.int z2), .val (.int (2 : Int32)), .val (.int (1 : Int32)), .val (.ref r45), .val (.ref r46), .val (.int w13), .unset, .unset, .unset, .unset, .unset] [(.int p3)])) (by intro t k; exact XS.iloadN X46.here hx rfl (hb hby at_116) rfl k) ?_
            refine go (T' := T46) (f' := (mkF m 119 #[.val (.int p0), .val (.int p1), .val (.int p2), .val (.int p3), .val (.int p4), .val (.int w5), .val (.int w6), .val (.int z1), .val (.int z2), .val (.int (2 : Int32)), .val (.int (1 : Int32)), .val (.ref r45), .val (.ref r46), .val (.int w13), .unset, .unset, .unset, .unset, .unset] [(.int (2147483647 : Int32)), (.int p3)])) (by intro t k; exact X46.ldcInt hx hown (mvT hZ (hw _ (List.mem_of_getElem? (i := 34) rfl))) (g := (mkF m 117 #[.val (.int p0), .val (.int p1), .val (.int p2), .val (.int p3), .val (.int p4), .val (.int w5), .val (.int w6), .val (.int z1), .val (.int z2), .val (.int (2 : Int32)), .val (.int (1 : Int32)), .val (.ref r45), .val (.ref r46), .val (.int w13), .unset, .unset, .unset, .unset, .unset] [(.int p3)])) rfl (hb hby at_117) _ k) ?_
            refine go (T' := T46) (f' := (mkF m 120 #[.val (.int p0), .val (.int p1), .val (.int p2), .val (.int p3), .val (.int p4), .val (.int w5), .val (.int w6), .val (.int z1), .val (.int z2), .val (.int (2 : Int32)), .val (.int (1 : Int32)), .val (.ref r45), .val (.ref r46), .val (.int w13), .unset, .unset, .unset, .unset, .unset] [(.int (p3 &&& (2147483647 : Int32)))])) (by intro t k; exact XS.iand X46.here hx rfl (hb hby at_119) rfl k) ?_
            refine go (T' := T46) (f' := (mkF m 125 #[.val (.int p0), .val (.int p1), .val (.int p2), .val (.int p3), .val (.int p4), .val (.int w5), .val (.int w6), .val (.int z1), .val (.int z2), .val (.int (2 : Int32)), .val (.int (1 : Int32)), .val (.ref r45), .val (.ref r46), .val (.int w13), .unset, .unset, .unset, .unset, .unset] [(.int (p3 &&& (2147483647 : Int32)))])) (by intro t k; exact XS.goto X46.here hx rfl (pc0 := 120) (pc' := 125) rfl (hb hby at_120) (by decide) (by decide) k) ?_
            have ez47 : z47 = (p3 &&& (2147483647 : Int32)) := (hz47).trans (if_neg hc113)
            subst ez47
            exact J113
        · subst ez
          show Run _ _ _ _ _ _ _ s₁ (mkF m 82 #[.val (.int p0), .val (.int p1), .val (.int p2), .val (.int p3), .val (.int p4), .val (.int w5), .val (.int w6), .val (.int z1), .val (.int z2), .val (.int (2 : Int32)), .val (.int (2 : Int32)), .unset, .unset, .unset, .unset, .unset, .unset, .unset, .unset] [(.int (2 : Int32))])
          refine go (T' := s₁) (f' := (mkF m 84 #[.val (.int p0), .val (.int p1), .val (.int p2), .val (.int p3), .val (.int p4), .val (.int w5), .val (.int w6), .val (.int z1), .val (.int z2), .val (.int (2 : Int32)), .val (.int (2 : Int32)), .unset, .unset, .unset, .unset, .unset, .unset, .unset, .unset] [(.int w5), (.int (2 : Int32))])) (by intro t k; exact XS.iload X0.here hx rfl (hb hby at_82) rfl k) ?_
          refine go (T' := s₁) (f' := (mkF m 86 #[.val (.int p0), .val (.int p1), .val (.int p2), .val (.int p3), .val (.int p4), .val (.int w5), .val (.int w6), .val (.int z1), .val (.int z2), .val (.int (2 : Int32)), .val (.int (2 : Int32)), .unset, .unset, .unset, .unset, .unset, .unset, .unset, .unset] [(.int w6), (.int w5), (.int (2 : Int32))])) (by intro t k; exact XS.iload X0.here hx rfl (hb hby at_84) rfl k) ?_
          obtain ⟨_, _, ⟨T64, Lz64, kz64, nz64⟩, -, X64, ⟨Lc64, hQ64, lz64, yz64, zz64⟩, st64⟩ := Jvm.LawKit.callS X0 hx (y := (⟨"com/example/backchain/backchain/model/PredicateEqualsPinLaw", "makeName", "(ICC)Ljava/lang/String;"⟩ : MethodName)) hown (mvT hZ (hw _ (List.mem_of_getElem? (i := 0) rfl))) (mvT hZ (hw _ (List.mem_of_getElem? (i := 1) rfl))) (mvT hZ (hw _ (List.mem_of_getElem? (i := 2) rfl))) (mvT hZ (hw _ (List.mem_of_getElem? (i := 3) rfl))) (by decide) (backOf (W := 0) (rm1n2 l Z aw hw [] w5 w6 cs h0 n0 Z0 O0 S_cs hcs (own_nc hc5) (own_nc hc6)) hZ (hw _ (List.mem_of_getElem? (i := 3) rfl)) (hw _ (List.mem_of_getElem? (i := 2) rfl)) (by decide) (by decide)) (g := (mkF m 86 #[.val (.int p0), .val (.int p1), .val (.int p2), .val (.int p3), .val (.int p4), .val (.int w5), .val (.int w6), .val (.int z1), .val (.int z2), .val (.int (2 : Int32)), .val (.int (2 : Int32)), .unset, .unset, .unset, .unset, .unset, .unset, .unset, .unset] [(.int w6), (.int w5), (.int (2 : Int32))])) rfl (by rw [hml]; rfl) (argsL := [(.int (2 : Int32)), (.int w5), (.int w6)]) (rest := []) (lenOf pd_28ICC29Ljava2flang2fString3b rfl) rfl (by show 2 * 0 + _ ≤ _; exact Nat.le_of_eq rfl) (hb hby at_86) (fun _ _ => ⟨rfl, e0, (by decide : 0 + 3 ≤ _), (by decide : 0 + 8 ≤ _)⟩)
          dsimp only [Pt.U, Pt.locs, Pt.cells, Pt.slots] at X64 lz64 yz64 zz64 st64 hQ64
          subst lz64 yz64 zz64
          obtain ⟨r64, rfl, sz64, N64q, K64, sb64, zb64, nrb64, E64, Fc64, Fv64, Ab64⟩ := hQ64
          have ge_r64 : n0 ≤ r64 := Nat.le_trans Z0 sz64
          have ge_sb64 : n0 ≤ sb64 := Nat.le_trans Z0 zb64
          have O64 : Old Z n0 T64.heap := O0.keep K64 all0
          have Z64 : n0 ≤ T64.heap.size := Nat.le_trans Z0 K64.1
          have N64 := Fr.app N0 N64q
          refine go st64 ?_
          show Run _ _ _ _ _ _ _ T64 (mkF m 89 #[.val (.int p0), .val (.int p1), .val (.int p2), .val (.int p3), .val (.int p4), .val (.int w5), .val (.int w6), .val (.int z1), .val (.int z2), .val (.int (2 : Int32)), .val (.int (2 : Int32)), .unset, .unset, .unset, .unset, .unset, .unset, .unset, .unset] [(.ref r64)])
          refine go (T' := T64) (f' := (mkF m 91 #[.val (.int p0), .val (.int p1), .val (.int p2), .val (.int p3), .val (.int p4), .val (.int w5), .val (.int w6), .val (.int z1), .val (.int z2), .val (.int (2 : Int32)), .val (.int (2 : Int32)), .val (.ref r64), .unset, .unset, .unset, .unset, .unset, .unset, .unset] [])) (by intro t k; exact XS.astore X64.here hx rfl (hb hby at_89) rfl rfl (l' := #[.val (.int p0), .val (.int p1), .val (.int p2), .val (.int p3), .val (.int p4), .val (.int w5), .val (.int w6), .val (.int z1), .val (.int z2), .val (.int (2 : Int32)), .val (.int (2 : Int32)), .val (.ref r64), .unset, .unset, .unset, .unset, .unset, .unset, .unset]) rfl k) ?_
          refine go (T' := T64) (f' := (mkF m 93 #[.val (.int p0), .val (.int p1), .val (.int p2), .val (.int p3), .val (.int p4), .val (.int w5), .val (.int w6), .val (.int z1), .val (.int z2), .val (.int (2 : Int32)), .val (.int (2 : Int32)), .val (.ref r64), .unset, .unset, .unset, .unset, .unset, .unset, .unset] [(.int (2 : Int32))])) (by intro t k; exact XS.iload X64.here hx rfl (hb hby at_91) rfl k) ?_
          refine go (T' := T64) (f' := (mkF m 95 #[.val (.int p0), .val (.int p1), .val (.int p2), .val (.int p3), .val (.int p4), .val (.int w5), .val (.int w6), .val (.int z1), .val (.int z2), .val (.int (2 : Int32)), .val (.int (2 : Int32)), .val (.ref r64), .unset, .unset, .unset, .unset, .unset, .unset, .unset] [(.int z1), (.int (2 : Int32))])) (by intro t k; exact XS.iload X64.here hx rfl (hb hby at_93) rfl k) ?_
          refine go (T' := T64) (f' := (mkF m 97 #[.val (.int p0), .val (.int p1), .val (.int p2), .val (.int p3), .val (.int p4), .val (.int w5), .val (.int w6), .val (.int z1), .val (.int z2), .val (.int (2 : Int32)), .val (.int (2 : Int32)), .val (.ref r64), .unset, .unset, .unset, .unset, .unset, .unset, .unset] [(.int z2), (.int z1), (.int (2 : Int32))])) (by intro t k; exact XS.iload X64.here hx rfl (hb hby at_95) rfl k) ?_
          obtain ⟨_, _, ⟨T65, Lz65, kz65, nz65⟩, -, X65, ⟨Lc65, hQ65, lz65, yz65, zz65⟩, st65⟩ := Jvm.LawKit.callS X64 hx (y := (⟨"com/example/backchain/backchain/model/PredicateEqualsPinLaw", "makeName", "(ICC)Ljava/lang/String;"⟩ : MethodName)) hown (mvT hZ (hw _ (List.mem_of_getElem? (i := 0) rfl))) (mvT hZ (hw _ (List.mem_of_getElem? (i := 1) rfl))) (mvT hZ (hw _ (List.mem_of_getElem? (i := 2) rfl))) (mvT hZ (hw _ (List.mem_of_getElem? (i := 3) rfl))) (by decide) (backOf (W := 0) (rm1n2 l Z aw hw [] z1 z2 cs T64.heap n0 Z64 O64 S_cs hcs (own_nc hc7) (own_nc hc8)) hZ (hw _ (List.mem_of_getElem? (i := 3) rfl)) (hw _ (List.mem_of_getElem? (i := 2) rfl)) (by decide) (by decide)) (g := (mkF m 97 #[.val (.int p0), .val (.int p1), .val (.int p2), .val (.int p3), .val (.int p4), .val (.int w5), .val (.int w6), .val (.int z1), .val (.int z2), .val (.int (2 : Int32)), .val (.int (2 : Int32)), .val (.ref r64), .unset, .unset, .unset, .unset, .unset, .unset, .unset] [(.int z2), (.int z1), (.int (2 : Int32))])) rfl (by rw [hml]; rfl) (argsL := [(.int (2 : Int32)), (.int z1), (.int z2)]) (rest := []) (lenOf pd_28ICC29Ljava2flang2fString3b rfl) rfl (by show 2 * 0 + _ ≤ _; exact Nat.le_of_eq rfl) (hb hby at_97) (fun _ _ => ⟨rfl, rfl, (by decide : 3 + 3 ≤ _), (by decide : 8 + 8 ≤ _)⟩)
          dsimp only [Pt.U, Pt.locs, Pt.cells, Pt.slots] at X65 lz65 yz65 zz65 st65 hQ65
          subst lz65 yz65 zz65
          obtain ⟨r65, rfl, sz65, N65q, K65, sb65, zb65, nrb65, E65, Fc65, Fv65, Ab65⟩ := hQ65
          have ne_r64_r65 : r64 ≠ r65 := Nat.ne_of_lt (Nat.lt_of_lt_of_le E64.lt sz65)
          have ne_sb64_r65 : sb64 ≠ r65 := Nat.ne_of_lt (Nat.lt_of_lt_of_le Ab64.lt sz65)
          have ge_r65 : n0 ≤ r65 := Nat.le_trans Z64 sz65
          have ne_r64_sb65 : r64 ≠ sb65 := Nat.ne_of_lt (Nat.lt_of_lt_of_le E64.lt zb65)
          have ne_sb64_sb65 : sb64 ≠ sb65 := Nat.ne_of_lt (Nat.lt_of_lt_of_le Ab64.lt zb65)
          have ge_sb65 : n0 ≤ sb65 := Nat.le_trans Z64 zb65
          have E65_r64 := Exa.keep E64 K65
          have F65_r64_coder := Fld.keep Fc64 K65 nin0
          have F65_r64_value := Fld.keep Fv64 K65 nin0
          have A65_sb64 := Ary.keep Ab64 K65 nin0
          have O65 : Old Z n0 T65.heap := O64.keep K65 all0
          have Z65 : n0 ≤ T65.heap.size := Nat.le_trans Z64 K65.1
          have N65 := Fr.app N64 N65q
          refine go st65 ?_
          show Run _ _ _ _ _ _ _ T65 (mkF m 100 #[.val (.int p0), .val (.int p1), .val (.int p2), .val (.int p3), .val (.int p4), .val (.int w5), .val (.int w6), .val (.int z1), .val (.int z2), .val (.int (2 : Int32)), .val (.int (2 : Int32)), .val (.ref r64), .unset, .unset, .unset, .unset, .unset, .unset, .unset] [(.ref r65)])
          refine go (T' := T65) (f' := (mkF m 102 #[.val (.int p0), .val (.int p1), .val (.int p2), .val (.int p3), .val (.int p4), .val (.int w5), .val (.int w6), .val (.int z1), .val (.int z2), .val (.int (2 : Int32)), .val (.int (2 : Int32)), .val (.ref r64), .val (.ref r65), .unset, .unset, .unset, .unset, .unset, .unset] [])) (by intro t k; exact XS.astore X65.here hx rfl (hb hby at_100) rfl rfl (l' := #[.val (.int p0), .val (.int p1), .val (.int p2), .val (.int p3), .val (.int p4), .val (.int w5), .val (.int w6), .val (.int z1), .val (.int z2), .val (.int (2 : Int32)), .val (.int (2 : Int32)), .val (.ref r64), .val (.ref r65), .unset, .unset, .unset, .unset, .unset, .unset]) rfl k) ?_
          refine go (T' := T65) (f' := (mkF m 103 #[.val (.int p0), .val (.int p1), .val (.int p2), .val (.int p3), .val (.int p4), .val (.int w5), .val (.int w6), .val (.int z1), .val (.int z2), .val (.int (2 : Int32)), .val (.int (2 : Int32)), .val (.ref r64), .val (.ref r65), .unset, .unset, .unset, .unset, .unset, .unset] [(.int p2)])) (by intro t k; exact XS.iloadN X65.here hx rfl (hb hby at_102) rfl k) ?_
          refine go (T' := T65) (f' := (mkF m 105 #[.val (.int p0), .val (.int p1), .val (.int p2), .val (.int p3), .val (.int p4), .val (.int w5), .val (.int w6), .val (.int z1), .val (.int z2), .val (.int (2 : Int32)), .val (.int (2 : Int32)), .val (.ref r64), .val (.ref r65), .unset, .unset, .unset, .unset, .unset, .unset] [(.int (2147483647 : Int32)), (.int p2)])) (by intro t k; exact X65.ldcInt hx hown (mvT hZ (hw _ (List.mem_of_getElem? (i := 34) rfl))) (g := (mkF m 103 #[.val (.int p0), .val (.int p1), .val (.int p2), .val (.int p3), .val (.int p4), .val (.int w5), .val (.int w6), .val (.int z1), .val (.int z2), .val (.int (2 : Int32)), .val (.int (2 : Int32)), .val (.ref r64), .val (.ref r65), .unset, .unset, .unset, .unset, .unset, .unset] [(.int p2)])) rfl (hb hby at_103) _ k) ?_
          refine go (T' := T65) (f' := (mkF m 106 #[.val (.int p0), .val (.int p1), .val (.int p2), .val (.int p3), .val (.int p4), .val (.int w5), .val (.int w6), .val (.int z1), .val (.int z2), .val (.int (2 : Int32)), .val (.int (2 : Int32)), .val (.ref r64), .val (.ref r65), .unset, .unset, .unset, .unset, .unset, .unset] [(.int (p2 &&& (2147483647 : Int32)))])) (by intro t k; exact XS.iand X65.here hx rfl (hb hby at_105) rfl k) ?_
          refine go (T' := T65) (f' := (mkF m 108 #[.val (.int p0), .val (.int p1), .val (.int p2), .val (.int p3), .val (.int p4), .val (.int w5), .val (.int w6), .val (.int z1), .val (.int z2), .val (.int (2 : Int32)), .val (.int (2 : Int32)), .val (.ref r64), .val (.ref r65), .val (.int (p2 &&& (2147483647 : Int32))), .unset, .unset, .unset, .unset, .unset] [])) (by intro t k; exact XS.istore X65.here hx rfl (hb hby at_106) rfl (l' := #[.val (.int p0), .val (.int p1), .val (.int p2), .val (.int p3), .val (.int p4), .val (.int w5), .val (.int w6), .val (.int z1), .val (.int z2), .val (.int (2 : Int32)), .val (.int (2 : Int32)), .val (.ref r64), .val (.ref r65), .val (.int (p2 &&& (2147483647 : Int32))), .unset, .unset, .unset, .unset, .unset]) rfl k) ?_
          obtain ⟨w13, hw13⟩ : ∃ z : Int32, z = (p2 &&& (2147483647 : Int32)) := ⟨_, rfl⟩
          rw [← hw13]
          show Run _ _ _ _ _ _ _ T65 (mkF m 108 #[.val (.int p0), .val (.int p1), .val (.int p2), .val (.int p3), .val (.int p4), .val (.int w5), .val (.int w6), .val (.int z1), .val (.int z2), .val (.int (2 : Int32)), .val (.int (2 : Int32)), .val (.ref r64), .val (.ref r65), .val (.int w13), .unset, .unset, .unset, .unset, .unset] [])
          refine go (T' := T65) (f' := (mkF m 110 #[.val (.int p0), .val (.int p1), .val (.int p2), .val (.int p3), .val (.int p4), .val (.int w5), .val (.int w6), .val (.int z1), .val (.int z2), .val (.int (2 : Int32)), .val (.int (2 : Int32)), .val (.ref r64), .val (.ref r65), .val (.int w13), .unset, .unset, .unset, .unset, .unset] [(.int p4)])) (by intro t k; exact XS.iload X65.here hx rfl (hb hby at_108) rfl k) ?_
          refine go (T' := T65) (f' := (mkF m 112 #[.val (.int p0), .val (.int p1), .val (.int p2), .val (.int p3), .val (.int p4), .val (.int w5), .val (.int w6), .val (.int z1), .val (.int z2), .val (.int (2 : Int32)), .val (.int (2 : Int32)), .val (.ref r64), .val (.ref r65), .val (.int w13), .unset, .unset, .unset, .unset, .unset] [(.int (16 : Int32)), (.int p4)])) (by intro t k; exact XS.bipush X65.here hx rfl (hb hby at_110) k) ?_
          refine go (T' := T65) (f' := (mkF m 113 #[.val (.int p0), .val (.int p1), .val (.int p2), .val (.int p3), .val (.int p4), .val (.int w5), .val (.int w6), .val (.int z1), .val (.int z2), .val (.int (2 : Int32)), .val (.int (2 : Int32)), .val (.ref r64), .val (.ref r65), .val (.int w13), .unset, .unset, .unset, .unset, .unset] [(.int (p4 &&& (16 : Int32)))])) (by intro t k; exact XS.iand X65.here hx rfl (hb hby at_112) rfl k) ?_
          obtain ⟨z66, hz66⟩ : ∃ z : Int32, z = (if (p4 &&& (16 : Int32)) = (0 : Int32) then w13 else (p3 &&& (2147483647 : Int32))) := ⟨_, rfl⟩
          have J113 : Run p e s below (Q0 Z p0 p1 p2 p3 p4 cs h0 n0) room_1.cells room_1.slots T65 (mkF m 125 #[.val (.int p0), .val (.int p1), .val (.int p2), .val (.int p3), .val (.int p4), .val (.int w5), .val (.int w6), .val (.int z1), .val (.int z2), .val (.int (2 : Int32)), .val (.int (2 : Int32)), .val (.ref r64), .val (.ref r65), .val (.int w13), .unset, .unset, .unset, .unset, .unset] [(.int z66)]) := by
            show Run _ _ _ _ _ _ _ T65 (mkF m 125 #[.val (.int p0), .val (.int p1), .val (.int p2), .val (.int p3), .val (.int p4), .val (.int w5), .val (.int w6), .val (.int z1), .val (.int z2), .val (.int (2 : Int32)), .val (.int (2 : Int32)), .val (.ref r64), .val (.ref r65), .val (.int w13), .unset, .unset, .unset, .unset, .unset] [(.int z66)])
            refine go (T' := T65) (f' := (mkF m 127 #[.val (.int p0), .val (.int p1), .val (.int p2), .val (.int p3), .val (.int p4), .val (.int w5), .val (.int w6), .val (.int z1), .val (.int z2), .val (.int (2 : Int32)), .val (.int (2 : Int32)), .val (.ref r64), .val (.ref r65), .val (.int w13), .val (.int z66), .unset, .unset, .unset, .unset] [])) (by intro t k; exact XS.istore X65.here hx rfl (hb hby at_125) rfl (l' := #[.val (.int p0), .val (.int p1), .val (.int p2), .val (.int p3), .val (.int p4), .val (.int w5), .val (.int w6), .val (.int z1), .val (.int z2), .val (.int (2 : Int32)), .val (.int (2 : Int32)), .val (.ref r64), .val (.ref r65), .val (.int w13), .val (.int z66), .unset, .unset, .unset, .unset]) rfl k) ?_
            refine go (T' := T65) (f' := (mkF m 129 #[.val (.int p0), .val (.int p1), .val (.int p2), .val (.int p3), .val (.int p4), .val (.int w5), .val (.int w6), .val (.int z1), .val (.int z2), .val (.int (2 : Int32)), .val (.int (2 : Int32)), .val (.ref r64), .val (.ref r65), .val (.int w13), .val (.int z66), .unset, .unset, .unset, .unset] [(.int p4)])) (by intro t k; exact XS.iload X65.here hx rfl (hb hby at_127) rfl k) ?_
            refine go (T' := T65) (f' := (mkF m 130 #[.val (.int p0), .val (.int p1), .val (.int p2), .val (.int p3), .val (.int p4), .val (.int w5), .val (.int w6), .val (.int z1), .val (.int z2), .val (.int (2 : Int32)), .val (.int (2 : Int32)), .val (.ref r64), .val (.ref r65), .val (.int w13), .val (.int z66), .unset, .unset, .unset, .unset] [(.int (5 : Int32)), (.int p4)])) (by intro t k; exact XS.iconst X65.here hx rfl (hb hby at_129) k) ?_
            refine go (T' := T65) (f' := (mkF m 131 #[.val (.int p0), .val (.int p1), .val (.int p2), .val (.int p3), .val (.int p4), .val (.int w5), .val (.int w6), .val (.int z1), .val (.int z2), .val (.int (2 : Int32)), .val (.int (2 : Int32)), .val (.ref r64), .val (.ref r65), .val (.int w13), .val (.int z66), .unset, .unset, .unset, .unset] [(.int (((p4).toUInt32 >>> ((5 : Int32) &&& 31).toUInt32).toInt32))])) (by intro t k; exact XS.iushr X65.here hx rfl (hb hby at_130) rfl k) ?_
            refine go (T' := T65) (f' := (mkF m 132 #[.val (.int p0), .val (.int p1), .val (.int p2), .val (.int p3), .val (.int p4), .val (.int w5), .val (.int w6), .val (.int z1), .val (.int z2), .val (.int (2 : Int32)), .val (.int (2 : Int32)), .val (.ref r64), .val (.ref r65), .val (.int w13), .val (.int z66), .unset, .unset, .unset, .unset] [(.int (3 : Int32)), (.int (((p4).toUInt32 >>> ((5 : Int32) &&& 31).toUInt32).toInt32))])) (by intro t k; exact XS.iconst X65.here hx rfl (hb hby at_131) k) ?_
            refine go (T' := T65) (f' := (mkF m 133 #[.val (.int p0), .val (.int p1), .val (.int p2), .val (.int p3), .val (.int p4), .val (.int w5), .val (.int w6), .val (.int z1), .val (.int z2), .val (.int (2 : Int32)), .val (.int (2 : Int32)), .val (.ref r64), .val (.ref r65), .val (.int w13), .val (.int z66), .unset, .unset, .unset, .unset] [(.int ((((p4).toUInt32 >>> ((5 : Int32) &&& 31).toUInt32).toInt32) &&& (3 : Int32)))])) (by intro t k; exact XS.iand X65.here hx rfl (hb hby at_132) rfl k) ?_
            refine go (T' := T65) (f' := (mkF m 135 #[.val (.int p0), .val (.int p1), .val (.int p2), .val (.int p3), .val (.int p4), .val (.int w5), .val (.int w6), .val (.int z1), .val (.int z2), .val (.int (2 : Int32)), .val (.int (2 : Int32)), .val (.ref r64), .val (.ref r65), .val (.int w13), .val (.int z66), .val (.int ((((p4).toUInt32 >>> ((5 : Int32) &&& 31).toUInt32).toInt32) &&& (3 : Int32))), .unset, .unset, .unset] [])) (by intro t k; exact XS.istore X65.here hx rfl (hb hby at_133) rfl (l' := #[.val (.int p0), .val (.int p1), .val (.int p2), .val (.int p3), .val (.int p4), .val (.int w5), .val (.int w6), .val (.int z1), .val (.int z2), .val (.int (2 : Int32)), .val (.int (2 : Int32)), .val (.ref r64), .val (.ref r65), .val (.int w13), .val (.int z66), .val (.int ((((p4).toUInt32 >>> ((5 : Int32) &&& 31).toUInt32).toInt32) &&& (3 : Int32))), .unset, .unset, .unset]) rfl k) ?_
            have ha13 := own_nn hw13
            have ha14 := own_ni hz66 ha13
            obtain ⟨z67, hz67⟩ : ∃ z : Int32, z = ((((p4).toUInt32 >>> ((5 : Int32) &&& 31).toUInt32).toInt32) &&& (3 : Int32)) := ⟨_, rfl⟩
            rw [← hz67]
            rcases (own_kind hz67 : z67 = (0 : Int32) ∨ z67 = (1 : Int32) ∨ z67 = (2 : Int32) ∨ z67 = (3 : Int32)) with ez | ez | ez | ez
            · subst ez
              show Run _ _ _ _ _ _ _ T65 (mkF m 135 #[.val (.int p0), .val (.int p1), .val (.int p2), .val (.int p3), .val (.int p4), .val (.int w5), .val (.int w6), .val (.int z1), .val (.int z2), .val (.int (2 : Int32)), .val (.int (2 : Int32)), .val (.ref r64), .val (.ref r65), .val (.int w13), .val (.int z66), .val (.int (0 : Int32)), .unset, .unset, .unset] [])
              obtain ⟨T68, h68, X68, e68, E68, A68, D68, -, st68⟩ := newO X65 hx hZ hown (hw _ (List.mem_of_getElem? (i := 35) rfl)) (hw _ (List.mem_of_getElem? (i := 36) rfl)) (hw _ (List.mem_of_getElem? (i := 37) rfl)) rfl (g := (mkF m 135 #[.val (.int p0), .val (.int p1), .val (.int p2), .val (.int p3), .val (.int p4), .val (.int w5), .val (.int w6), .val (.int z1), .val (.int z2), .val (.int (2 : Int32)), .val (.int (2 : Int32)), .val (.ref r64), .val (.ref r65), .val (.int w13), .val (.int z66), .val (.int (0 : Int32)), .unset, .unset, .unset] [])) rfl (hb hby at_135) (by decide) (by decide)
              obtain ⟨b68, g68⟩ : ∃ z, z = T65.heap.size := ⟨_, rfl⟩
              rw [← g68] at A68 D68 st68
              have ne_r64_b68 : r64 ≠ b68 := Nat.ne_of_lt (Nat.lt_of_lt_of_eq E65_r64.lt g68.symm)
              have ne_r65_b68 : r65 ≠ b68 := Nat.ne_of_lt (Nat.lt_of_lt_of_eq E65.lt g68.symm)
              have ne_sb64_b68 : sb64 ≠ b68 := Nat.ne_of_lt (Nat.lt_of_lt_of_eq A65_sb64.lt g68.symm)
              have ne_sb65_b68 : sb65 ≠ b68 := Nat.ne_of_lt (Nat.lt_of_lt_of_eq Ab65.lt g68.symm)
              have ge_b68 : n0 ≤ b68 := Nat.le_trans Z65 (Nat.le_of_eq g68.symm)
              have K68 : Keep T65.heap h68 [] := (Keep.refl _ _).ext E68
              have E68_r64 := Exa.keep E65_r64 K68
              have E68_r65 := Exa.keep E65 K68
              have F68_r64_coder := Fld.keep F65_r64_coder K68 nin0
              have F68_r64_value := Fld.keep F65_r64_value K68 nin0
              have F68_r65_coder := Fld.keep Fc65 K68 nin0
              have F68_r65_value := Fld.keep Fv65 K68 nin0
              have A68_sb64 := Ary.keep A65_sb64 K68 nin0
              have A68_sb65 := Ary.keep Ab65 K68 nin0
              have O68 : Old Z n0 h68 := O65.keep K68 all0
              have Z68 : n0 ≤ h68.size := Nat.le_trans Z65 K68.1
              have F68_b68_name : Fld Z h68 b68 "com/example/backchain/backchain/model/Predicate" "name" "Ljava/lang/String;" .null := D68 (Or.inr (hw _ (List.mem_of_getElem? (i := 48) rfl))) (ty := (.object "java/lang/String")) (by decide)
              have F68_b68_arity : Fld Z h68 b68 "com/example/backchain/backchain/model/Predicate" "arity" "I" (.int (0 : Int32)) := D68 (Or.inr (hw _ (List.mem_of_getElem? (i := 50) rfl))) (ty := .int) (by decide)
              refine go st68 ?_
              show Run _ _ _ _ _ _ _ T68 (mkF m 138 #[.val (.int p0), .val (.int p1), .val (.int p2), .val (.int p3), .val (.int p4), .val (.int w5), .val (.int w6), .val (.int z1), .val (.int z2), .val (.int (2 : Int32)), .val (.int (2 : Int32)), .val (.ref r64), .val (.ref r65), .val (.int w13), .val (.int z66), .val (.int (0 : Int32)), .unset, .unset, .unset] [(.ref b68)])
              refine go (T' := T68) (f' := (mkF m 139 #[.val (.int p0), .val (.int p1), .val (.int p2), .val (.int p3), .val (.int p4), .val (.int w5), .val (.int w6), .val (.int z1), .val (.int z2), .val (.int (2 : Int32)), .val (.int (2 : Int32)), .val (.ref r64), .val (.ref r65), .val (.int w13), .val (.int z66), .val (.int (0 : Int32)), .unset, .unset, .unset] [(.ref b68), (.ref b68)])) (by intro t k; exact XS.dup X68.here hx rfl (hb hby at_138) rfl rfl k) ?_
              refine go (T' := T68) (f' := (mkF m 141 #[.val (.int p0), .val (.int p1), .val (.int p2), .val (.int p3), .val (.int p4), .val (.int w5), .val (.int w6), .val (.int z1), .val (.int z2), .val (.int (2 : Int32)), .val (.int (2 : Int32)), .val (.ref r64), .val (.ref r65), .val (.int w13), .val (.int z66), .val (.int (0 : Int32)), .unset, .unset, .unset] [(.ref r64), (.ref b68), (.ref b68)])) (by intro t k; exact XS.aload X68.here hx rfl (hb hby at_139) rfl rfl k) ?_
              refine go (T' := T68) (f' := (mkF m 143 #[.val (.int p0), .val (.int p1), .val (.int p2), .val (.int p3), .val (.int p4), .val (.int w5), .val (.int w6), .val (.int z1), .val (.int z2), .val (.int (2 : Int32)), .val (.int (2 : Int32)), .val (.ref r64), .val (.ref r65), .val (.int w13), .val (.int z66), .val (.int (0 : Int32)), .unset, .unset, .unset] [(.int w13), (.ref r64), (.ref b68), (.ref b68)])) (by intro t k; exact XS.iload X68.here hx rfl (hb hby at_141) rfl k) ?_
              obtain ⟨_, _, ⟨T69, Lz69, kz69, nz69⟩, -, X69, ⟨Lc69, hQ69, lz69, yz69, zz69⟩, st69⟩ := X68.specialBack hx (y := (⟨"com/example/backchain/backchain/model/Predicate", "<init>", "(Ljava/lang/String;I)V"⟩ : MethodName)) rfl hown (mvT hZ (hw _ (List.mem_of_getElem? (i := 38) rfl))) (mvT hZ (hw _ (List.mem_of_getElem? (i := 39) rfl))) (mvT hZ (hw _ (List.mem_of_getElem? (i := 40) rfl))) (by decide) (backOf (W := 1) (rm8 l Z aw hw [] b68 r64 w13 sb64 [(.int (nar .byte (((nar .char w5)).toInt8.toInt32))), (.int (nar .byte (((nar .char w6)).toInt8.toInt32)))] (2 : Int32) h68 n0 Z68 A68 F68_b68_name F68_b68_arity ge_b68 E68_r64 F68_r64_value A68_sb64 (Ne.symm ne_r64_b68) (Ne.symm ne_sb64_b68) rfl (by decide) ha13) hZ (hw _ (List.mem_of_getElem? (i := 40) rfl)) (hw _ (List.mem_of_getElem? (i := 37) rfl)) (by decide) (by decide)) (g := (mkF m 143 #[.val (.int p0), .val (.int p1), .val (.int p2), .val (.int p3), .val (.int p4), .val (.int w5), .val (.int w6), .val (.int z1), .val (.int z2), .val (.int (2 : Int32)), .val (.int (2 : Int32)), .val (.ref r64), .val (.ref r65), .val (.int w13), .val (.int z66), .val (.int (0 : Int32)), .unset, .unset, .unset] [(.int w13), (.ref r64), (.ref b68), (.ref b68)])) rfl (by rw [hml]; rfl) (Steps.refl _) (a := b68) (argsL := [(.ref r64), (.int w13)]) (rest := [(.ref b68)]) (lenOf pd_28Ljava2flang2fString3bI29V rfl) rfl (by show 2 * 0 + _ ≤ _; exact Nat.le_of_eq rfl) (hb hby at_143) (fun _ _ => ⟨rfl, e68, (by decide : 7 + 0 ≤ _), (by decide : 18 + 0 ≤ _)⟩)
              dsimp only [Pt.U, Pt.locs, Pt.cells, Pt.slots] at X69 lz69 yz69 zz69 st69 hQ69
              subst lz69 yz69 zz69
              obtain ⟨rfl, N69q, K69, Fn69, Fa69⟩ := hQ69
              have E69_r64 := Exa.keep E68_r64 K69
              have E69_r65 := Exa.keep E68_r65 K69
              have E69_b68 := Exa.keep A68 K69
              have F69_r64_coder := Fld.keep F68_r64_coder K69 (ninS ne_r64_b68 nin0)
              have F69_r64_value := Fld.keep F68_r64_value K69 (ninS ne_r64_b68 nin0)
              have F69_r65_coder := Fld.keep F68_r65_coder K69 (ninS ne_r65_b68 nin0)
              have F69_r65_value := Fld.keep F68_r65_value K69 (ninS ne_r65_b68 nin0)
              have A69_sb64 := Ary.keep A68_sb64 K69 (ninS ne_sb64_b68 nin0)
              have A69_sb65 := Ary.keep A68_sb65 K69 (ninS ne_sb65_b68 nin0)
              have O69 : Old Z n0 T69.heap := O68.keep K69 (allS ge_b68 all0)
              have Z69 : n0 ≤ T69.heap.size := Nat.le_trans Z68 K69.1
              have N69 := Fr.app N65 N69q
              refine go (fun _ k => st69.trans k) ?_
              show Run _ _ _ _ _ _ _ T69 (mkF m 146 #[.val (.int p0), .val (.int p1), .val (.int p2), .val (.int p3), .val (.int p4), .val (.int w5), .val (.int w6), .val (.int z1), .val (.int z2), .val (.int (2 : Int32)), .val (.int (2 : Int32)), .val (.ref r64), .val (.ref r65), .val (.int w13), .val (.int z66), .val (.int (0 : Int32)), .unset, .unset, .unset] [(.ref b68)])
              refine go (T' := T69) (f' := (mkF m 148 #[.val (.int p0), .val (.int p1), .val (.int p2), .val (.int p3), .val (.int p4), .val (.int w5), .val (.int w6), .val (.int z1), .val (.int z2), .val (.int (2 : Int32)), .val (.int (2 : Int32)), .val (.ref r64), .val (.ref r65), .val (.int w13), .val (.int z66), .val (.int (0 : Int32)), .val (.ref b68), .unset, .unset] [])) (by intro t k; exact XS.astore X69.here hx rfl (hb hby at_146) rfl rfl (l' := #[.val (.int p0), .val (.int p1), .val (.int p2), .val (.int p3), .val (.int p4), .val (.int w5), .val (.int w6), .val (.int z1), .val (.int z2), .val (.int (2 : Int32)), .val (.int (2 : Int32)), .val (.ref r64), .val (.ref r65), .val (.int w13), .val (.int z66), .val (.int (0 : Int32)), .val (.ref b68), .unset, .unset]) rfl k) ?_
              refine go (T' := T69) (f' := (mkF m 150 #[.val (.int p0), .val (.int p1), .val (.int p2), .val (.int p3), .val (.int p4), .val (.int w5), .val (.int w6), .val (.int z1), .val (.int z2), .val (.int (2 : Int32)), .val (.int (2 : Int32)), .val (.ref r64), .val (.ref r65), .val (.int w13), .val (.int z66), .val (.int (0 : Int32)), .val (.ref b68), .unset, .unset] [(.int (0 : Int32))])) (by intro t k; exact XS.iload X69.here hx rfl (hb hby at_148) rfl k) ?_
              refine go (T' := T69) (f' := (mkF m 153 #[.val (.int p0), .val (.int p1), .val (.int p2), .val (.int p3), .val (.int p4), .val (.int w5), .val (.int w6), .val (.int z1), .val (.int z2), .val (.int (2 : Int32)), .val (.int (2 : Int32)), .val (.ref r64), .val (.ref r65), .val (.int w13), .val (.int z66), .val (.int (0 : Int32)), .val (.ref b68), .unset, .unset] [])) (by intro t k; exact XS.ifNo X69.here hx rfl (hb hby at_150) rfl ((if0 _ _).trans (teq (rfl : (0 : Int32) = (0 : Int32))).2) k) ?_
              refine go (T' := T69) (f' := (mkF m 155 #[.val (.int p0), .val (.int p1), .val (.int p2), .val (.int p3), .val (.int p4), .val (.int w5), .val (.int w6), .val (.int z1), .val (.int z2), .val (.int (2 : Int32)), .val (.int (2 : Int32)), .val (.ref r64), .val (.ref r65), .val (.int w13), .val (.int z66), .val (.int (0 : Int32)), .val (.ref b68), .unset, .unset] [(.ref b68)])) (by intro t k; exact XS.aload X69.here hx rfl (hb hby at_153) rfl rfl k) ?_
              refine go (T' := T69) (f' := (mkF m 157 #[.val (.int p0), .val (.int p1), .val (.int p2), .val (.int p3), .val (.int p4), .val (.int w5), .val (.int w6), .val (.int z1), .val (.int z2), .val (.int (2 : Int32)), .val (.int (2 : Int32)), .val (.ref r64), .val (.ref r65), .val (.int w13), .val (.int z66), .val (.int (0 : Int32)), .val (.ref b68), .unset, .unset] [(.ref b68), (.ref b68)])) (by intro t k; exact XS.aload X69.here hx rfl (hb hby at_155) rfl rfl k) ?_
              obtain ⟨cq70, kq70, q70a, q70b, q70c⟩ := isOf hZ rfl E69_b68
              obtain ⟨_, _, ⟨T70, Lz70, kz70, nz70⟩, -, X70, ⟨Lc70, hQ70, lz70, yz70, zz70⟩, st70⟩ := X69.virtualBack hx (y := (⟨"com/example/backchain/backchain/model/Predicate", "equals", "(Ljava/lang/Object;)Z"⟩ : MethodName)) (z := (⟨"com/example/backchain/backchain/model/Predicate", "equals", "(Ljava/lang/Object;)Z"⟩ : MethodName)) hown (mvT hZ (hw _ (List.mem_of_getElem? (i := 51) rfl))) (mvT hZ (hw _ (List.mem_of_getElem? (i := 52) rfl))) (notFace_of_selects (args := #[]) (mvT hZ (hw _ (List.mem_of_getElem? (i := 54) rfl)))) (mvT hZ (hw _ (List.mem_of_getElem? (i := 54) rfl))) (mvT hZ (hw _ (List.mem_of_getElem? (i := 53) rfl))) (by decide) (backOf (W := 0) (rm10s l Z aw hw [] b68 b68  T69.heap n0 Z69 rfl) hZ (hw _ (List.mem_of_getElem? (i := 55) rfl)) (hw _ (List.mem_of_getElem? (i := 37) rfl)) (by decide) (by decide)) q70a q70c (g := (mkF m 157 #[.val (.int p0), .val (.int p1), .val (.int p2), .val (.int p3), .val (.int p4), .val (.int w5), .val (.int w6), .val (.int z1), .val (.int z2), .val (.int (2 : Int32)), .val (.int (2 : Int32)), .val (.ref r64), .val (.ref r65), .val (.int w13), .val (.int z66), .val (.int (0 : Int32)), .val (.ref b68), .unset, .unset] [(.ref b68), (.ref b68)])) rfl (by rw [hml]; rfl) (Steps.refl _) (argsL := [(.ref b68)]) (rest := []) (lenOf pd_28Ljava2flang2fObject3b29Z rfl) rfl (by show 2 * 0 + _ ≤ _; exact Nat.le_of_eq rfl) (hb hby at_157) (fun _ _ => ⟨rfl, rfl, (by decide : 7 + 0 ≤ _), (by decide : 18 + 0 ≤ _)⟩)
              dsimp only [Pt.U, Pt.locs, Pt.cells, Pt.slots] at X70 lz70 yz70 zz70 st70 hQ70
              subst lz70 yz70 zz70
              obtain ⟨rfl, N70q, e70⟩ := hQ70
              have N70 := Fr.app N69 N70q
              refine go (fun _ k => st70.trans k) ?_
              show Run _ _ _ _ _ _ _ T70 (mkF m 160 #[.val (.int p0), .val (.int p1), .val (.int p2), .val (.int p3), .val (.int p4), .val (.int w5), .val (.int w6), .val (.int z1), .val (.int z2), .val (.int (2 : Int32)), .val (.int (2 : Int32)), .val (.ref r64), .val (.ref r65), .val (.int w13), .val (.int z66), .val (.int (0 : Int32)), .val (.ref b68), .unset, .unset] [(.int (1 : Int32))])
              refine retZ X70 hx (t := .boolean) Bd.returns (by simp) (hb hby at_160) hlk (by decide) (by decide) ?_
              show Q0 Z p0 p1 p2 p3 p4 cs h0 n0 _ T70.heap _
              rw [e70]
              have hv' : (nar .boolean (1 : Int32)) = (1 : Int32) := by
                rfl
              have hv : (some (.int (nar .boolean (1 : Int32))) : Option Value) = some (.int (1 : Int32)) := congrArg (fun z => (some (.int z) : Option Value)) hv'
              exact ⟨hv, N70⟩
            · subst ez
              show Run _ _ _ _ _ _ _ T65 (mkF m 135 #[.val (.int p0), .val (.int p1), .val (.int p2), .val (.int p3), .val (.int p4), .val (.int w5), .val (.int w6), .val (.int z1), .val (.int z2), .val (.int (2 : Int32)), .val (.int (2 : Int32)), .val (.ref r64), .val (.ref r65), .val (.int w13), .val (.int z66), .val (.int (1 : Int32)), .unset, .unset, .unset] [])
              obtain ⟨T71, h71, X71, e71, E71, A71, D71, -, st71⟩ := newO X65 hx hZ hown (hw _ (List.mem_of_getElem? (i := 35) rfl)) (hw _ (List.mem_of_getElem? (i := 36) rfl)) (hw _ (List.mem_of_getElem? (i := 37) rfl)) rfl (g := (mkF m 135 #[.val (.int p0), .val (.int p1), .val (.int p2), .val (.int p3), .val (.int p4), .val (.int w5), .val (.int w6), .val (.int z1), .val (.int z2), .val (.int (2 : Int32)), .val (.int (2 : Int32)), .val (.ref r64), .val (.ref r65), .val (.int w13), .val (.int z66), .val (.int (1 : Int32)), .unset, .unset, .unset] [])) rfl (hb hby at_135) (by decide) (by decide)
              obtain ⟨b71, g71⟩ : ∃ z, z = T65.heap.size := ⟨_, rfl⟩
              rw [← g71] at A71 D71 st71
              have ne_r64_b71 : r64 ≠ b71 := Nat.ne_of_lt (Nat.lt_of_lt_of_eq E65_r64.lt g71.symm)
              have ne_r65_b71 : r65 ≠ b71 := Nat.ne_of_lt (Nat.lt_of_lt_of_eq E65.lt g71.symm)
              have ne_sb64_b71 : sb64 ≠ b71 := Nat.ne_of_lt (Nat.lt_of_lt_of_eq A65_sb64.lt g71.symm)
              have ne_sb65_b71 : sb65 ≠ b71 := Nat.ne_of_lt (Nat.lt_of_lt_of_eq Ab65.lt g71.symm)
              have ge_b71 : n0 ≤ b71 := Nat.le_trans Z65 (Nat.le_of_eq g71.symm)
              have K71 : Keep T65.heap h71 [] := (Keep.refl _ _).ext E71
              have E71_r64 := Exa.keep E65_r64 K71
              have E71_r65 := Exa.keep E65 K71
              have F71_r64_coder := Fld.keep F65_r64_coder K71 nin0
              have F71_r64_value := Fld.keep F65_r64_value K71 nin0
              have F71_r65_coder := Fld.keep Fc65 K71 nin0
              have F71_r65_value := Fld.keep Fv65 K71 nin0
              have A71_sb64 := Ary.keep A65_sb64 K71 nin0
              have A71_sb65 := Ary.keep Ab65 K71 nin0
              have O71 : Old Z n0 h71 := O65.keep K71 all0
              have Z71 : n0 ≤ h71.size := Nat.le_trans Z65 K71.1
              have F71_b71_name : Fld Z h71 b71 "com/example/backchain/backchain/model/Predicate" "name" "Ljava/lang/String;" .null := D71 (Or.inr (hw _ (List.mem_of_getElem? (i := 48) rfl))) (ty := (.object "java/lang/String")) (by decide)
              have F71_b71_arity : Fld Z h71 b71 "com/example/backchain/backchain/model/Predicate" "arity" "I" (.int (0 : Int32)) := D71 (Or.inr (hw _ (List.mem_of_getElem? (i := 50) rfl))) (ty := .int) (by decide)
              refine go st71 ?_
              show Run _ _ _ _ _ _ _ T71 (mkF m 138 #[.val (.int p0), .val (.int p1), .val (.int p2), .val (.int p3), .val (.int p4), .val (.int w5), .val (.int w6), .val (.int z1), .val (.int z2), .val (.int (2 : Int32)), .val (.int (2 : Int32)), .val (.ref r64), .val (.ref r65), .val (.int w13), .val (.int z66), .val (.int (1 : Int32)), .unset, .unset, .unset] [(.ref b71)])
              refine go (T' := T71) (f' := (mkF m 139 #[.val (.int p0), .val (.int p1), .val (.int p2), .val (.int p3), .val (.int p4), .val (.int w5), .val (.int w6), .val (.int z1), .val (.int z2), .val (.int (2 : Int32)), .val (.int (2 : Int32)), .val (.ref r64), .val (.ref r65), .val (.int w13), .val (.int z66), .val (.int (1 : Int32)), .unset, .unset, .unset] [(.ref b71), (.ref b71)])) (by intro t k; exact XS.dup X71.here hx rfl (hb hby at_138) rfl rfl k) ?_
              refine go (T' := T71) (f' := (mkF m 141 #[.val (.int p0), .val (.int p1), .val (.int p2), .val (.int p3), .val (.int p4), .val (.int w5), .val (.int w6), .val (.int z1), .val (.int z2), .val (.int (2 : Int32)), .val (.int (2 : Int32)), .val (.ref r64), .val (.ref r65), .val (.int w13), .val (.int z66), .val (.int (1 : Int32)), .unset, .unset, .unset] [(.ref r64), (.ref b71), (.ref b71)])) (by intro t k; exact XS.aload X71.here hx rfl (hb hby at_139) rfl rfl k) ?_
              refine go (T' := T71) (f' := (mkF m 143 #[.val (.int p0), .val (.int p1), .val (.int p2), .val (.int p3), .val (.int p4), .val (.int w5), .val (.int w6), .val (.int z1), .val (.int z2), .val (.int (2 : Int32)), .val (.int (2 : Int32)), .val (.ref r64), .val (.ref r65), .val (.int w13), .val (.int z66), .val (.int (1 : Int32)), .unset, .unset, .unset] [(.int w13), (.ref r64), (.ref b71), (.ref b71)])) (by intro t k; exact XS.iload X71.here hx rfl (hb hby at_141) rfl k) ?_
              obtain ⟨_, _, ⟨T72, Lz72, kz72, nz72⟩, -, X72, ⟨Lc72, hQ72, lz72, yz72, zz72⟩, st72⟩ := X71.specialBack hx (y := (⟨"com/example/backchain/backchain/model/Predicate", "<init>", "(Ljava/lang/String;I)V"⟩ : MethodName)) rfl hown (mvT hZ (hw _ (List.mem_of_getElem? (i := 38) rfl))) (mvT hZ (hw _ (List.mem_of_getElem? (i := 39) rfl))) (mvT hZ (hw _ (List.mem_of_getElem? (i := 40) rfl))) (by decide) (backOf (W := 1) (rm8 l Z aw hw [] b71 r64 w13 sb64 [(.int (nar .byte (((nar .char w5)).toInt8.toInt32))), (.int (nar .byte (((nar .char w6)).toInt8.toInt32)))] (2 : Int32) h71 n0 Z71 A71 F71_b71_name F71_b71_arity ge_b71 E71_r64 F71_r64_value A71_sb64 (Ne.symm ne_r64_b71) (Ne.symm ne_sb64_b71) rfl (by decide) ha13) hZ (hw _ (List.mem_of_getElem? (i := 40) rfl)) (hw _ (List.mem_of_getElem? (i := 37) rfl)) (by decide) (by decide)) (g := (mkF m 143 #[.val (.int p0), .val (.int p1), .val (.int p2), .val (.int p3), .val (.int p4), .val (.int w5), .val (.int w6), .val (.int z1), .val (.int z2), .val (.int (2 : Int32)), .val (.int (2 : Int32)), .val (.ref r64), .val (.ref r65), .val (.int w13), .val (.int z66), .val (.int (1 : Int32)), .unset, .unset, .unset] [(.int w13), (.ref r64), (.ref b71), (.ref b71)])) rfl (by rw [hml]; rfl) (Steps.refl _) (a := b71) (argsL := [(.ref r64), (.int w13)]) (rest := [(.ref b71)]) (lenOf pd_28Ljava2flang2fString3bI29V rfl) rfl (by show 2 * 0 + _ ≤ _; exact Nat.le_of_eq rfl) (hb hby at_143) (fun _ _ => ⟨rfl, e71, (by decide : 7 + 0 ≤ _), (by decide : 18 + 0 ≤ _)⟩)
              dsimp only [Pt.U, Pt.locs, Pt.cells, Pt.slots] at X72 lz72 yz72 zz72 st72 hQ72
              subst lz72 yz72 zz72
              obtain ⟨rfl, N72q, K72, Fn72, Fa72⟩ := hQ72
              have E72_r64 := Exa.keep E71_r64 K72
              have E72_r65 := Exa.keep E71_r65 K72
              have E72_b71 := Exa.keep A71 K72
              have F72_r64_coder := Fld.keep F71_r64_coder K72 (ninS ne_r64_b71 nin0)
              have F72_r64_value := Fld.keep F71_r64_value K72 (ninS ne_r64_b71 nin0)
              have F72_r65_coder := Fld.keep F71_r65_coder K72 (ninS ne_r65_b71 nin0)
              have F72_r65_value := Fld.keep F71_r65_value K72 (ninS ne_r65_b71 nin0)
              have A72_sb64 := Ary.keep A71_sb64 K72 (ninS ne_sb64_b71 nin0)
              have A72_sb65 := Ary.keep A71_sb65 K72 (ninS ne_sb65_b71 nin0)
              have O72 : Old Z n0 T72.heap := O71.keep K72 (allS ge_b71 all0)
              have Z72 : n0 ≤ T72.heap.size := Nat.le_trans Z71 K72.1
              have N72 := Fr.app N65 N72q
              refine go (fun _ k => st72.trans k) ?_
              show Run _ _ _ _ _ _ _ T72 (mkF m 146 #[.val (.int p0), .val (.int p1), .val (.int p2), .val (.int p3), .val (.int p4), .val (.int w5), .val (.int w6), .val (.int z1), .val (.int z2), .val (.int (2 : Int32)), .val (.int (2 : Int32)), .val (.ref r64), .val (.ref r65), .val (.int w13), .val (.int z66), .val (.int (1 : Int32)), .unset, .unset, .unset] [(.ref b71)])
              refine go (T' := T72) (f' := (mkF m 148 #[.val (.int p0), .val (.int p1), .val (.int p2), .val (.int p3), .val (.int p4), .val (.int w5), .val (.int w6), .val (.int z1), .val (.int z2), .val (.int (2 : Int32)), .val (.int (2 : Int32)), .val (.ref r64), .val (.ref r65), .val (.int w13), .val (.int z66), .val (.int (1 : Int32)), .val (.ref b71), .unset, .unset] [])) (by intro t k; exact XS.astore X72.here hx rfl (hb hby at_146) rfl rfl (l' := #[.val (.int p0), .val (.int p1), .val (.int p2), .val (.int p3), .val (.int p4), .val (.int w5), .val (.int w6), .val (.int z1), .val (.int z2), .val (.int (2 : Int32)), .val (.int (2 : Int32)), .val (.ref r64), .val (.ref r65), .val (.int w13), .val (.int z66), .val (.int (1 : Int32)), .val (.ref b71), .unset, .unset]) rfl k) ?_
              refine go (T' := T72) (f' := (mkF m 150 #[.val (.int p0), .val (.int p1), .val (.int p2), .val (.int p3), .val (.int p4), .val (.int w5), .val (.int w6), .val (.int z1), .val (.int z2), .val (.int (2 : Int32)), .val (.int (2 : Int32)), .val (.ref r64), .val (.ref r65), .val (.int w13), .val (.int z66), .val (.int (1 : Int32)), .val (.ref b71), .unset, .unset] [(.int (1 : Int32))])) (by intro t k; exact XS.iload X72.here hx rfl (hb hby at_148) rfl k) ?_
              refine go (T' := T72) (f' := (mkF m 161 #[.val (.int p0), .val (.int p1), .val (.int p2), .val (.int p3), .val (.int p4), .val (.int w5), .val (.int w6), .val (.int z1), .val (.int z2), .val (.int (2 : Int32)), .val (.int (2 : Int32)), .val (.ref r64), .val (.ref r65), .val (.int w13), .val (.int z66), .val (.int (1 : Int32)), .val (.ref b71), .unset, .unset] [])) (by intro t k; exact XS.ifYes X72.here hx rfl (pc0 := 150) (pc' := 161) rfl (hb hby at_150) rfl ((if0 _ _).trans (feq (by decide : ¬ ((1 : Int32) = (0 : Int32)))).2) (by decide) (by decide) k) ?_
              refine go (T' := T72) (f' := (mkF m 163 #[.val (.int p0), .val (.int p1), .val (.int p2), .val (.int p3), .val (.int p4), .val (.int w5), .val (.int w6), .val (.int z1), .val (.int z2), .val (.int (2 : Int32)), .val (.int (2 : Int32)), .val (.ref r64), .val (.ref r65), .val (.int w13), .val (.int z66), .val (.int (1 : Int32)), .val (.ref b71), .unset, .unset] [(.int (1 : Int32))])) (by intro t k; exact XS.iload X72.here hx rfl (hb hby at_161) rfl k) ?_
              refine go (T' := T72) (f' := (mkF m 164 #[.val (.int p0), .val (.int p1), .val (.int p2), .val (.int p3), .val (.int p4), .val (.int w5), .val (.int w6), .val (.int z1), .val (.int z2), .val (.int (2 : Int32)), .val (.int (2 : Int32)), .val (.ref r64), .val (.ref r65), .val (.int w13), .val (.int z66), .val (.int (1 : Int32)), .val (.ref b71), .unset, .unset] [(.int (2 : Int32)), (.int (1 : Int32))])) (by intro t k; exact XS.iconst X72.here hx rfl (hb hby at_163) k) ?_
              refine go (T' := T72) (f' := (mkF m 183 #[.val (.int p0), .val (.int p1), .val (.int p2), .val (.int p3), .val (.int p4), .val (.int w5), .val (.int w6), .val (.int z1), .val (.int z2), .val (.int (2 : Int32)), .val (.int (2 : Int32)), .val (.ref r64), .val (.ref r65), .val (.int w13), .val (.int z66), .val (.int (1 : Int32)), .val (.ref b71), .unset, .unset] [])) (by intro t k; exact XS.icmpYes X72.here hx rfl (pc0 := 164) (pc' := 183) rfl (hb hby at_164) rfl (feq (by decide : ¬ ((1 : Int32) = (2 : Int32)))).2 (by decide) (by decide) k) ?_
              refine go (T' := T72) (f' := (mkF m 185 #[.val (.int p0), .val (.int p1), .val (.int p2), .val (.int p3), .val (.int p4), .val (.int w5), .val (.int w6), .val (.int z1), .val (.int z2), .val (.int (2 : Int32)), .val (.int (2 : Int32)), .val (.ref r64), .val (.ref r65), .val (.int w13), .val (.int z66), .val (.int (1 : Int32)), .val (.ref b71), .unset, .unset] [(.int (1 : Int32))])) (by intro t k; exact XS.iload X72.here hx rfl (hb hby at_183) rfl k) ?_
              refine go (T' := T72) (f' := (mkF m 186 #[.val (.int p0), .val (.int p1), .val (.int p2), .val (.int p3), .val (.int p4), .val (.int w5), .val (.int w6), .val (.int z1), .val (.int z2), .val (.int (2 : Int32)), .val (.int (2 : Int32)), .val (.ref r64), .val (.ref r65), .val (.int w13), .val (.int z66), .val (.int (1 : Int32)), .val (.ref b71), .unset, .unset] [(.int (3 : Int32)), (.int (1 : Int32))])) (by intro t k; exact XS.iconst X72.here hx rfl (hb hby at_185) k) ?_
              refine go (T' := T72) (f' := (mkF m 204 #[.val (.int p0), .val (.int p1), .val (.int p2), .val (.int p3), .val (.int p4), .val (.int w5), .val (.int w6), .val (.int z1), .val (.int z2), .val (.int (2 : Int32)), .val (.int (2 : Int32)), .val (.ref r64), .val (.ref r65), .val (.int w13), .val (.int z66), .val (.int (1 : Int32)), .val (.ref b71), .unset, .unset] [])) (by intro t k; exact XS.icmpYes X72.here hx rfl (pc0 := 186) (pc' := 204) rfl (hb hby at_186) rfl (feq (by decide : ¬ ((1 : Int32) = (3 : Int32)))).2 (by decide) (by decide) k) ?_
              obtain ⟨T73, h73, X73, e73, E73, A73, D73, -, st73⟩ := newO X72 hx hZ hown (hw _ (List.mem_of_getElem? (i := 35) rfl)) (hw _ (List.mem_of_getElem? (i := 36) rfl)) (hw _ (List.mem_of_getElem? (i := 37) rfl)) rfl (g := (mkF m 204 #[.val (.int p0), .val (.int p1), .val (.int p2), .val (.int p3), .val (.int p4), .val (.int w5), .val (.int w6), .val (.int z1), .val (.int z2), .val (.int (2 : Int32)), .val (.int (2 : Int32)), .val (.ref r64), .val (.ref r65), .val (.int w13), .val (.int z66), .val (.int (1 : Int32)), .val (.ref b71), .unset, .unset] [])) rfl (hb hby at_204) (by decide) (by decide)
              obtain ⟨b73, g73⟩ : ∃ z, z = T72.heap.size := ⟨_, rfl⟩
              rw [← g73] at A73 D73 st73
              have ne_r64_b73 : r64 ≠ b73 := Nat.ne_of_lt (Nat.lt_of_lt_of_eq E72_r64.lt g73.symm)
              have ne_r65_b73 : r65 ≠ b73 := Nat.ne_of_lt (Nat.lt_of_lt_of_eq E72_r65.lt g73.symm)
              have ne_b71_b73 : b71 ≠ b73 := Nat.ne_of_lt (Nat.lt_of_lt_of_eq E72_b71.lt g73.symm)
              have ne_sb64_b73 : sb64 ≠ b73 := Nat.ne_of_lt (Nat.lt_of_lt_of_eq A72_sb64.lt g73.symm)
              have ne_sb65_b73 : sb65 ≠ b73 := Nat.ne_of_lt (Nat.lt_of_lt_of_eq A72_sb65.lt g73.symm)
              have ge_b73 : n0 ≤ b73 := Nat.le_trans Z72 (Nat.le_of_eq g73.symm)
              have K73 : Keep T72.heap h73 [] := (Keep.refl _ _).ext E73
              have E73_r64 := Exa.keep E72_r64 K73
              have E73_r65 := Exa.keep E72_r65 K73
              have E73_b71 := Exa.keep E72_b71 K73
              have F73_r64_coder := Fld.keep F72_r64_coder K73 nin0
              have F73_r64_value := Fld.keep F72_r64_value K73 nin0
              have F73_r65_coder := Fld.keep F72_r65_coder K73 nin0
              have F73_r65_value := Fld.keep F72_r65_value K73 nin0
              have F73_b71_name := Fld.keep Fn72 K73 nin0
              have F73_b71_arity := Fld.keep Fa72 K73 nin0
              have A73_sb64 := Ary.keep A72_sb64 K73 nin0
              have A73_sb65 := Ary.keep A72_sb65 K73 nin0
              have O73 : Old Z n0 h73 := O72.keep K73 all0
              have Z73 : n0 ≤ h73.size := Nat.le_trans Z72 K73.1
              have F73_b73_name : Fld Z h73 b73 "com/example/backchain/backchain/model/Predicate" "name" "Ljava/lang/String;" .null := D73 (Or.inr (hw _ (List.mem_of_getElem? (i := 48) rfl))) (ty := (.object "java/lang/String")) (by decide)
              have F73_b73_arity : Fld Z h73 b73 "com/example/backchain/backchain/model/Predicate" "arity" "I" (.int (0 : Int32)) := D73 (Or.inr (hw _ (List.mem_of_getElem? (i := 50) rfl))) (ty := .int) (by decide)
              refine go st73 ?_
              show Run _ _ _ _ _ _ _ T73 (mkF m 207 #[.val (.int p0), .val (.int p1), .val (.int p2), .val (.int p3), .val (.int p4), .val (.int w5), .val (.int w6), .val (.int z1), .val (.int z2), .val (.int (2 : Int32)), .val (.int (2 : Int32)), .val (.ref r64), .val (.ref r65), .val (.int w13), .val (.int z66), .val (.int (1 : Int32)), .val (.ref b71), .unset, .unset] [(.ref b73)])
              refine go (T' := T73) (f' := (mkF m 208 #[.val (.int p0), .val (.int p1), .val (.int p2), .val (.int p3), .val (.int p4), .val (.int w5), .val (.int w6), .val (.int z1), .val (.int z2), .val (.int (2 : Int32)), .val (.int (2 : Int32)), .val (.ref r64), .val (.ref r65), .val (.int w13), .val (.int z66), .val (.int (1 : Int32)), .val (.ref b71), .unset, .unset] [(.ref b73), (.ref b73)])) (by intro t k; exact XS.dup X73.here hx rfl (hb hby at_207) rfl rfl k) ?_
              refine go (T' := T73) (f' := (mkF m 210 #[.val (.int p0), .val (.int p1), .val (.int p2), .val (.int p3), .val (.int p4), .val (.int w5), .val (.int w6), .val (.int z1), .val (.int z2), .val (.int (2 : Int32)), .val (.int (2 : Int32)), .val (.ref r64), .val (.ref r65), .val (.int w13), .val (.int z66), .val (.int (1 : Int32)), .val (.ref b71), .unset, .unset] [(.ref r65), (.ref b73), (.ref b73)])) (by intro t k; exact XS.aload X73.here hx rfl (hb hby at_208) rfl rfl k) ?_
              refine go (T' := T73) (f' := (mkF m 212 #[.val (.int p0), .val (.int p1), .val (.int p2), .val (.int p3), .val (.int p4), .val (.int w5), .val (.int w6), .val (.int z1), .val (.int z2), .val (.int (2 : Int32)), .val (.int (2 : Int32)), .val (.ref r64), .val (.ref r65), .val (.int w13), .val (.int z66), .val (.int (1 : Int32)), .val (.ref b71), .unset, .unset] [(.int z66), (.ref r65), (.ref b73), (.ref b73)])) (by intro t k; exact XS.iload X73.here hx rfl (hb hby at_210) rfl k) ?_
              obtain ⟨_, _, ⟨T74, Lz74, kz74, nz74⟩, -, X74, ⟨Lc74, hQ74, lz74, yz74, zz74⟩, st74⟩ := X73.specialBack hx (y := (⟨"com/example/backchain/backchain/model/Predicate", "<init>", "(Ljava/lang/String;I)V"⟩ : MethodName)) rfl hown (mvT hZ (hw _ (List.mem_of_getElem? (i := 38) rfl))) (mvT hZ (hw _ (List.mem_of_getElem? (i := 39) rfl))) (mvT hZ (hw _ (List.mem_of_getElem? (i := 40) rfl))) (by decide) (backOf (W := 1) (rm8 l Z aw hw [] b73 r65 z66 sb65 [(.int (nar .byte (((nar .char z1)).toInt8.toInt32))), (.int (nar .byte (((nar .char z2)).toInt8.toInt32)))] (2 : Int32) h73 n0 Z73 A73 F73_b73_name F73_b73_arity ge_b73 E73_r65 F73_r65_value A73_sb65 (Ne.symm ne_r65_b73) (Ne.symm ne_sb65_b73) rfl (by decide) ha14) hZ (hw _ (List.mem_of_getElem? (i := 40) rfl)) (hw _ (List.mem_of_getElem? (i := 37) rfl)) (by decide) (by decide)) (g := (mkF m 212 #[.val (.int p0), .val (.int p1), .val (.int p2), .val (.int p3), .val (.int p4), .val (.int w5), .val (.int w6), .val (.int z1), .val (.int z2), .val (.int (2 : Int32)), .val (.int (2 : Int32)), .val (.ref r64), .val (.ref r65), .val (.int w13), .val (.int z66), .val (.int (1 : Int32)), .val (.ref b71), .unset, .unset] [(.int z66), (.ref r65), (.ref b73), (.ref b73)])) rfl (by rw [hml]; rfl) (Steps.refl _) (a := b73) (argsL := [(.ref r65), (.int z66)]) (rest := [(.ref b73)]) (lenOf pd_28Ljava2flang2fString3bI29V rfl) rfl (by show 2 * 0 + _ ≤ _; exact Nat.le_of_eq rfl) (hb hby at_212) (fun _ _ => ⟨rfl, e73, (by decide : 8 + 0 ≤ _), (by decide : 20 + 0 ≤ _)⟩)
              dsimp only [Pt.U, Pt.locs, Pt.cells, Pt.slots] at X74 lz74 yz74 zz74 st74 hQ74
              subst lz74 yz74 zz74
              obtain ⟨rfl, N74q, K74, Fn74, Fa74⟩ := hQ74
              have E74_r64 := Exa.keep E73_r64 K74
              have E74_r65 := Exa.keep E73_r65 K74
              have E74_b71 := Exa.keep E73_b71 K74
              have E74_b73 := Exa.keep A73 K74
              have F74_r64_coder := Fld.keep F73_r64_coder K74 (ninS ne_r64_b73 nin0)
              have F74_r64_value := Fld.keep F73_r64_value K74 (ninS ne_r64_b73 nin0)
              have F74_r65_coder := Fld.keep F73_r65_coder K74 (ninS ne_r65_b73 nin0)
              have F74_r65_value := Fld.keep F73_r65_value K74 (ninS ne_r65_b73 nin0)
              have F74_b71_name := Fld.keep F73_b71_name K74 (ninS ne_b71_b73 nin0)
              have F74_b71_arity := Fld.keep F73_b71_arity K74 (ninS ne_b71_b73 nin0)
              have A74_sb64 := Ary.keep A73_sb64 K74 (ninS ne_sb64_b73 nin0)
              have A74_sb65 := Ary.keep A73_sb65 K74 (ninS ne_sb65_b73 nin0)
              have O74 : Old Z n0 T74.heap := O73.keep K74 (allS ge_b73 all0)
              have Z74 : n0 ≤ T74.heap.size := Nat.le_trans Z73 K74.1
              have N74 := Fr.app N72 N74q
              refine go (fun _ k => st74.trans k) ?_
              show Run _ _ _ _ _ _ _ T74 (mkF m 215 #[.val (.int p0), .val (.int p1), .val (.int p2), .val (.int p3), .val (.int p4), .val (.int w5), .val (.int w6), .val (.int z1), .val (.int z2), .val (.int (2 : Int32)), .val (.int (2 : Int32)), .val (.ref r64), .val (.ref r65), .val (.int w13), .val (.int z66), .val (.int (1 : Int32)), .val (.ref b71), .unset, .unset] [(.ref b73)])
              refine go (T' := T74) (f' := (mkF m 217 #[.val (.int p0), .val (.int p1), .val (.int p2), .val (.int p3), .val (.int p4), .val (.int w5), .val (.int w6), .val (.int z1), .val (.int z2), .val (.int (2 : Int32)), .val (.int (2 : Int32)), .val (.ref r64), .val (.ref r65), .val (.int w13), .val (.int z66), .val (.int (1 : Int32)), .val (.ref b71), .val (.ref b73), .unset] [])) (by intro t k; exact XS.astore X74.here hx rfl (hb hby at_215) rfl rfl (l' := #[.val (.int p0), .val (.int p1), .val (.int p2), .val (.int p3), .val (.int p4), .val (.int w5), .val (.int w6), .val (.int z1), .val (.int z2), .val (.int (2 : Int32)), .val (.int (2 : Int32)), .val (.ref r64), .val (.ref r65), .val (.int w13), .val (.int z66), .val (.int (1 : Int32)), .val (.ref b71), .val (.ref b73), .unset]) rfl k) ?_
              refine go (T' := T74) (f' := (mkF m 219 #[.val (.int p0), .val (.int p1), .val (.int p2), .val (.int p3), .val (.int p4), .val (.int w5), .val (.int w6), .val (.int z1), .val (.int z2), .val (.int (2 : Int32)), .val (.int (2 : Int32)), .val (.ref r64), .val (.ref r65), .val (.int w13), .val (.int z66), .val (.int (1 : Int32)), .val (.ref b71), .val (.ref b73), .unset] [(.int w13)])) (by intro t k; exact XS.iload X74.here hx rfl (hb hby at_217) rfl k) ?_
              refine go (T' := T74) (f' := (mkF m 221 #[.val (.int p0), .val (.int p1), .val (.int p2), .val (.int p3), .val (.int p4), .val (.int w5), .val (.int w6), .val (.int z1), .val (.int z2), .val (.int (2 : Int32)), .val (.int (2 : Int32)), .val (.ref r64), .val (.ref r65), .val (.int w13), .val (.int z66), .val (.int (1 : Int32)), .val (.ref b71), .val (.ref b73), .unset] [(.int z66), (.int w13)])) (by intro t k; exact XS.iload X74.here hx rfl (hb hby at_219) rfl k) ?_
              obtain ⟨z75, hz75⟩ : ∃ z : Int32, z = (if w13 = z66 then (if w5 = z1 then (if w6 = z2 then (1 : Int32) else (0 : Int32)) else (0 : Int32)) else (0 : Int32)) := ⟨_, rfl⟩
              have J221 : Run p e s below (Q0 Z p0 p1 p2 p3 p4 cs h0 n0) room_1.cells room_1.slots T74 (mkF m 256 #[.val (.int p0), .val (.int p1), .val (.int p2), .val (.int p3), .val (.int p4), .val (.int w5), .val (.int w6), .val (.int z1), .val (.int z2), .val (.int (2 : Int32)), .val (.int (2 : Int32)), .val (.ref r64), .val (.ref r65), .val (.int w13), .val (.int z66), .val (.int (1 : Int32)), .val (.ref b71), .val (.ref b73), .unset] [(.int z75)]) := by
                show Run _ _ _ _ _ _ _ T74 (mkF m 256 #[.val (.int p0), .val (.int p1), .val (.int p2), .val (.int p3), .val (.int p4), .val (.int w5), .val (.int w6), .val (.int z1), .val (.int z2), .val (.int (2 : Int32)), .val (.int (2 : Int32)), .val (.ref r64), .val (.ref r65), .val (.int w13), .val (.int z66), .val (.int (1 : Int32)), .val (.ref b71), .val (.ref b73), .unset] [(.int z75)])
                refine go (T' := T74) (f' := (mkF m 258 #[.val (.int p0), .val (.int p1), .val (.int p2), .val (.int p3), .val (.int p4), .val (.int w5), .val (.int w6), .val (.int z1), .val (.int z2), .val (.int (2 : Int32)), .val (.int (2 : Int32)), .val (.ref r64), .val (.ref r65), .val (.int w13), .val (.int z66), .val (.int (1 : Int32)), .val (.ref b71), .val (.ref b73), .val (.int z75)] [])) (by intro t k; exact XS.istore X74.here hx rfl (hb hby at_256) rfl (l' := #[.val (.int p0), .val (.int p1), .val (.int p2), .val (.int p3), .val (.int p4), .val (.int w5), .val (.int w6), .val (.int z1), .val (.int z2), .val (.int (2 : Int32)), .val (.int (2 : Int32)), .val (.ref r64), .val (.ref r65), .val (.int w13), .val (.int z66), .val (.int (1 : Int32)), .val (.ref b71), .val (.ref b73), .val (.int z75)]) rfl k) ?_
                refine go (T' := T74) (f' := (mkF m 260 #[.val (.int p0), .val (.int p1), .val (.int p2), .val (.int p3), .val (.int p4), .val (.int w5), .val (.int w6), .val (.int z1), .val (.int z2), .val (.int (2 : Int32)), .val (.int (2 : Int32)), .val (.ref r64), .val (.ref r65), .val (.int w13), .val (.int z66), .val (.int (1 : Int32)), .val (.ref b71), .val (.ref b73), .val (.int z75)] [(.ref b71)])) (by intro t k; exact XS.aload X74.here hx rfl (hb hby at_258) rfl rfl k) ?_
                refine go (T' := T74) (f' := (mkF m 262 #[.val (.int p0), .val (.int p1), .val (.int p2), .val (.int p3), .val (.int p4), .val (.int w5), .val (.int w6), .val (.int z1), .val (.int z2), .val (.int (2 : Int32)), .val (.int (2 : Int32)), .val (.ref r64), .val (.ref r65), .val (.int w13), .val (.int z66), .val (.int (1 : Int32)), .val (.ref b71), .val (.ref b73), .val (.int z75)] [(.ref b73), (.ref b71)])) (by intro t k; exact XS.aload X74.here hx rfl (hb hby at_260) rfl rfl k) ?_
                obtain ⟨cq76, kq76, q76a, q76b, q76c⟩ := isOf hZ rfl E74_b71
                obtain ⟨_, _, ⟨T76, Lz76, kz76, nz76⟩, -, X76, ⟨Lc76, hQ76, lz76, yz76, zz76⟩, st76⟩ := X74.virtualBack hx (y := (⟨"com/example/backchain/backchain/model/Predicate", "equals", "(Ljava/lang/Object;)Z"⟩ : MethodName)) (z := (⟨"com/example/backchain/backchain/model/Predicate", "equals", "(Ljava/lang/Object;)Z"⟩ : MethodName)) hown (mvT hZ (hw _ (List.mem_of_getElem? (i := 51) rfl))) (mvT hZ (hw _ (List.mem_of_getElem? (i := 52) rfl))) (notFace_of_selects (args := #[]) (mvT hZ (hw _ (List.mem_of_getElem? (i := 54) rfl)))) (mvT hZ (hw _ (List.mem_of_getElem? (i := 54) rfl))) (mvT hZ (hw _ (List.mem_of_getElem? (i := 53) rfl))) (by decide) (backOf (W := 0) (rm10n22 l Z aw hw [] b71 b73 cs w13 z66 r64 r65 sb64 sb65 (nar .byte (((nar .char w5)).toInt8.toInt32)) (nar .byte (((nar .char w6)).toInt8.toInt32)) (nar .byte (((nar .char z1)).toInt8.toInt32)) (nar .byte (((nar .char z2)).toInt8.toInt32)) T74.heap n0 Z74 O74 S_cs hcs E74_b71 F74_b71_name F74_b71_arity E74_b73 Fn74 Fa74 E74_r64 F74_r64_coder F74_r64_value A74_sb64 E74_r65 F74_r65_coder F74_r65_value A74_sb65 ne_b71_b73 ne_r64_r65) hZ (hw _ (List.mem_of_getElem? (i := 55) rfl)) (hw _ (List.mem_of_getElem? (i := 37) rfl)) (by decide) (by decide)) q76a q76c (g := (mkF m 262 #[.val (.int p0), .val (.int p1), .val (.int p2), .val (.int p3), .val (.int p4), .val (.int w5), .val (.int w6), .val (.int z1), .val (.int z2), .val (.int (2 : Int32)), .val (.int (2 : Int32)), .val (.ref r64), .val (.ref r65), .val (.int w13), .val (.int z66), .val (.int (1 : Int32)), .val (.ref b71), .val (.ref b73), .val (.int z75)] [(.ref b73), (.ref b71)])) rfl (by rw [hml]; rfl) (Steps.refl _) (argsL := [(.ref b73)]) (rest := []) (lenOf pd_28Ljava2flang2fObject3b29Z rfl) rfl (by show 2 * 0 + _ ≤ _; exact Nat.le_of_eq rfl) (hb hby at_262) (fun _ _ => ⟨rfl, rfl, (by decide : 8 + 0 ≤ _), (by decide : 20 + 0 ≤ _)⟩)
                dsimp only [Pt.U, Pt.locs, Pt.cells, Pt.slots] at X76 lz76 yz76 zz76 st76 hQ76
                subst lz76 yz76 zz76
                obtain ⟨rfl, N76q, e76⟩ := hQ76
                have N76 := Fr.app N74 N76q
                refine go (fun _ k => st76.trans k) ?_
                show Run _ _ _ _ _ _ _ T76 (mkF m 265 #[.val (.int p0), .val (.int p1), .val (.int p2), .val (.int p3), .val (.int p4), .val (.int w5), .val (.int w6), .val (.int z1), .val (.int z2), .val (.int (2 : Int32)), .val (.int (2 : Int32)), .val (.ref r64), .val (.ref r65), .val (.int w13), .val (.int z66), .val (.int (1 : Int32)), .val (.ref b71), .val (.ref b73), .val (.int z75)] [(.int (if w13 = z66 then (if (nar .byte (((nar .char w5)).toInt8.toInt32)) = (nar .byte (((nar .char z1)).toInt8.toInt32)) then (if (nar .byte (((nar .char w6)).toInt8.toInt32)) = (nar .byte (((nar .char z2)).toInt8.toInt32)) then (1 : Int32) else (0 : Int32)) else (0 : Int32)) else (0 : Int32)))])
                refine go (T' := T76) (f' := (mkF m 267 #[.val (.int p0), .val (.int p1), .val (.int p2), .val (.int p3), .val (.int p4), .val (.int w5), .val (.int w6), .val (.int z1), .val (.int z2), .val (.int (2 : Int32)), .val (.int (2 : Int32)), .val (.ref r64), .val (.ref r65), .val (.int w13), .val (.int z66), .val (.int (1 : Int32)), .val (.ref b71), .val (.ref b73), .val (.int z75)] [(.int z75), (.int (if w13 = z66 then (if (nar .byte (((nar .char w5)).toInt8.toInt32)) = (nar .byte (((nar .char z1)).toInt8.toInt32)) then (if (nar .byte (((nar .char w6)).toInt8.toInt32)) = (nar .byte (((nar .char z2)).toInt8.toInt32)) then (1 : Int32) else (0 : Int32)) else (0 : Int32)) else (0 : Int32)))])) (by intro t k; exact XS.iload X76.here hx rfl (hb hby at_265) rfl k) ?_
                refine go (T' := T76) (f' := (mkF m 270 #[.val (.int p0), .val (.int p1), .val (.int p2), .val (.int p3), .val (.int p4), .val (.int w5), .val (.int w6), .val (.int z1), .val (.int z2), .val (.int (2 : Int32)), .val (.int (2 : Int32)), .val (.ref r64), .val (.ref r65), .val (.int w13), .val (.int z66), .val (.int (1 : Int32)), .val (.ref b71), .val (.ref b73), .val (.int z75)] [])) (by intro t k; exact XS.icmpNo X76.here hx rfl (hb hby at_267) rfl (teq ((own_law2 hc5 hc7 hc6 hc8).trans hz75.symm : (if w13 = z66 then (if (nar .byte (((nar .char w5)).toInt8.toInt32)) = (nar .byte (((nar .char z1)).toInt8.toInt32)) then (if (nar .byte (((nar .char w6)).toInt8.toInt32)) = (nar .byte (((nar .char z2)).toInt8.toInt32)) then (1 : Int32) else (0 : Int32)) else (0 : Int32)) else (0 : Int32)) = z75)).2 k) ?_
                refine go (T' := T76) (f' := (mkF m 272 #[.val (.int p0), .val (.int p1), .val (.int p2), .val (.int p3), .val (.int p4), .val (.int w5), .val (.int w6), .val (.int z1), .val (.int z2), .val (.int (2 : Int32)), .val (.int (2 : Int32)), .val (.ref r64), .val (.ref r65), .val (.int w13), .val (.int z66), .val (.int (1 : Int32)), .val (.ref b71), .val (.ref b73), .val (.int z75)] [(.ref b73)])) (by intro t k; exact XS.aload X76.here hx rfl (hb hby at_270) rfl rfl k) ?_
                refine go (T' := T76) (f' := (mkF m 274 #[.val (.int p0), .val (.int p1), .val (.int p2), .val (.int p3), .val (.int p4), .val (.int w5), .val (.int w6), .val (.int z1), .val (.int z2), .val (.int (2 : Int32)), .val (.int (2 : Int32)), .val (.ref r64), .val (.ref r65), .val (.int w13), .val (.int z66), .val (.int (1 : Int32)), .val (.ref b71), .val (.ref b73), .val (.int z75)] [(.ref b71), (.ref b73)])) (by intro t k; exact XS.aload X76.here hx rfl (hb hby at_272) rfl rfl k) ?_
                obtain ⟨cq77, kq77, q77a, q77b, q77c⟩ := isOf hZ e76 E74_b73
                obtain ⟨_, _, ⟨T77, Lz77, kz77, nz77⟩, -, X77, ⟨Lc77, hQ77, lz77, yz77, zz77⟩, st77⟩ := X76.virtualBack hx (y := (⟨"com/example/backchain/backchain/model/Predicate", "equals", "(Ljava/lang/Object;)Z"⟩ : MethodName)) (z := (⟨"com/example/backchain/backchain/model/Predicate", "equals", "(Ljava/lang/Object;)Z"⟩ : MethodName)) hown (mvT hZ (hw _ (List.mem_of_getElem? (i := 51) rfl))) (mvT hZ (hw _ (List.mem_of_getElem? (i := 52) rfl))) (notFace_of_selects (args := #[]) (mvT hZ (hw _ (List.mem_of_getElem? (i := 54) rfl)))) (mvT hZ (hw _ (List.mem_of_getElem? (i := 54) rfl))) (mvT hZ (hw _ (List.mem_of_getElem? (i := 53) rfl))) (by decide) (backOf (W := 0) (rm10n22 l Z aw hw [] b73 b71 cs z66 w13 r65 r64 sb65 sb64 (nar .byte (((nar .char z1)).toInt8.toInt32)) (nar .byte (((nar .char z2)).toInt8.toInt32)) (nar .byte (((nar .char w5)).toInt8.toInt32)) (nar .byte (((nar .char w6)).toInt8.toInt32)) T74.heap n0 Z74 O74 S_cs hcs E74_b73 Fn74 Fa74 E74_b71 F74_b71_name F74_b71_arity E74_r65 F74_r65_coder F74_r65_value A74_sb65 E74_r64 F74_r64_coder F74_r64_value A74_sb64 (Ne.symm ne_b71_b73) (Ne.symm ne_r64_r65)) hZ (hw _ (List.mem_of_getElem? (i := 55) rfl)) (hw _ (List.mem_of_getElem? (i := 37) rfl)) (by decide) (by decide)) q77a q77c (g := (mkF m 274 #[.val (.int p0), .val (.int p1), .val (.int p2), .val (.int p3), .val (.int p4), .val (.int w5), .val (.int w6), .val (.int z1), .val (.int z2), .val (.int (2 : Int32)), .val (.int (2 : Int32)), .val (.ref r64), .val (.ref r65), .val (.int w13), .val (.int z66), .val (.int (1 : Int32)), .val (.ref b71), .val (.ref b73), .val (.int z75)] [(.ref b71), (.ref b73)])) rfl (by rw [hml]; rfl) (Steps.refl _) (argsL := [(.ref b71)]) (rest := []) (lenOf pd_28Ljava2flang2fObject3b29Z rfl) rfl (by show 2 * 0 + _ ≤ _; exact Nat.le_of_eq rfl) (hb hby at_274) (fun _ _ => ⟨rfl, e76, (by decide : 8 + 0 ≤ _), (by decide : 20 + 0 ≤ _)⟩)
                dsimp only [Pt.U, Pt.locs, Pt.cells, Pt.slots] at X77 lz77 yz77 zz77 st77 hQ77
                subst lz77 yz77 zz77
                obtain ⟨rfl, N77q, e77⟩ := hQ77
                have N77 := Fr.app N76 N77q
                refine go (fun _ k => st77.trans k) ?_
                show Run _ _ _ _ _ _ _ T77 (mkF m 277 #[.val (.int p0), .val (.int p1), .val (.int p2), .val (.int p3), .val (.int p4), .val (.int w5), .val (.int w6), .val (.int z1), .val (.int z2), .val (.int (2 : Int32)), .val (.int (2 : Int32)), .val (.ref r64), .val (.ref r65), .val (.int w13), .val (.int z66), .val (.int (1 : Int32)), .val (.ref b71), .val (.ref b73), .val (.int z75)] [(.int (if z66 = w13 then (if (nar .byte (((nar .char z1)).toInt8.toInt32)) = (nar .byte (((nar .char w5)).toInt8.toInt32)) then (if (nar .byte (((nar .char z2)).toInt8.toInt32)) = (nar .byte (((nar .char w6)).toInt8.toInt32)) then (1 : Int32) else (0 : Int32)) else (0 : Int32)) else (0 : Int32)))])
                refine go (T' := T77) (f' := (mkF m 279 #[.val (.int p0), .val (.int p1), .val (.int p2), .val (.int p3), .val (.int p4), .val (.int w5), .val (.int w6), .val (.int z1), .val (.int z2), .val (.int (2 : Int32)), .val (.int (2 : Int32)), .val (.ref r64), .val (.ref r65), .val (.int w13), .val (.int z66), .val (.int (1 : Int32)), .val (.ref b71), .val (.ref b73), .val (.int z75)] [(.int z75), (.int (if z66 = w13 then (if (nar .byte (((nar .char z1)).toInt8.toInt32)) = (nar .byte (((nar .char w5)).toInt8.toInt32)) then (if (nar .byte (((nar .char z2)).toInt8.toInt32)) = (nar .byte (((nar .char w6)).toInt8.toInt32)) then (1 : Int32) else (0 : Int32)) else (0 : Int32)) else (0 : Int32)))])) (by intro t k; exact XS.iload X77.here hx rfl (hb hby at_277) rfl k) ?_
                refine go (T' := T77) (f' := (mkF m 282 #[.val (.int p0), .val (.int p1), .val (.int p2), .val (.int p3), .val (.int p4), .val (.int w5), .val (.int w6), .val (.int z1), .val (.int z2), .val (.int (2 : Int32)), .val (.int (2 : Int32)), .val (.ref r64), .val (.ref r65), .val (.int w13), .val (.int z66), .val (.int (1 : Int32)), .val (.ref b71), .val (.ref b73), .val (.int z75)] [])) (by intro t k; exact XS.icmpNo X77.here hx rfl (hb hby at_279) rfl (teq ((own_law2' hc5 hc7 hc6 hc8).trans hz75.symm : (if z66 = w13 then (if (nar .byte (((nar .char z1)).toInt8.toInt32)) = (nar .byte (((nar .char w5)).toInt8.toInt32)) then (if (nar .byte (((nar .char z2)).toInt8.toInt32)) = (nar .byte (((nar .char w6)).toInt8.toInt32)) then (1 : Int32) else (0 : Int32)) else (0 : Int32)) else (0 : Int32)) = z75)).2 k) ?_
                refine go (T' := T77) (f' := (mkF m 283 #[.val (.int p0), .val (.int p1), .val (.int p2), .val (.int p3), .val (.int p4), .val (.int w5), .val (.int w6), .val (.int z1), .val (.int z2), .val (.int (2 : Int32)), .val (.int (2 : Int32)), .val (.ref r64), .val (.ref r65), .val (.int w13), .val (.int z66), .val (.int (1 : Int32)), .val (.ref b71), .val (.ref b73), .val (.int z75)] [(.int (1 : Int32))])) (by intro t k; exact XS.iconst X77.here hx rfl (hb hby at_282) k) ?_
                refine go (T' := T77) (f' := (mkF m 287 #[.val (.int p0), .val (.int p1), .val (.int p2), .val (.int p3), .val (.int p4), .val (.int w5), .val (.int w6), .val (.int z1), .val (.int z2), .val (.int (2 : Int32)), .val (.int (2 : Int32)), .val (.ref r64), .val (.ref r65), .val (.int w13), .val (.int z66), .val (.int (1 : Int32)), .val (.ref b71), .val (.ref b73), .val (.int z75)] [(.int (1 : Int32))])) (by intro t k; exact XS.goto X77.here hx rfl (pc0 := 283) (pc' := 287) rfl (hb hby at_283) (by decide) (by decide) k) ?_
                refine retZ X77 hx (t := .boolean) Bd.returns (by simp) (hb hby at_287) hlk (by decide) (by decide) ?_
                show Q0 Z p0 p1 p2 p3 p4 cs h0 n0 _ T77.heap _
                rw [e77]
                have hv' : (nar .boolean (1 : Int32)) = (1 : Int32) := by
                  rfl
                have hv : (some (.int (nar .boolean (1 : Int32))) : Option Value) = some (.int (1 : Int32)) := congrArg (fun z => (some (.int z) : Option Value)) hv'
                exact ⟨hv, N77⟩
              show Run _ _ _ _ _ _ _ T74 (mkF m 221 #[.val (.int p0), .val (.int p1), .val (.int p2), .val (.int p3), .val (.int p4), .val (.int w5), .val (.int w6), .val (.int z1), .val (.int z2), .val (.int (2 : Int32)), .val (.int (2 : Int32)), .val (.ref r64), .val (.ref r65), .val (.int w13), .val (.int z66), .val (.int (1 : Int32)), .val (.ref b71), .val (.ref b73), .unset] [(.int z66), (.int w13)])
              by_cases hc221 : w13 = z66
              · refine go (T' := T74) (f' := (mkF m 224 #[.val (.int p0), .val (.int p1), .val (.int p2), .val (.int p3), .val (.int p4), .val (.int w5), .val (.int w6), .val (.int z1), .val (.int z2), .val (.int (2 : Int32)), .val (.int (2 : Int32)), .val (.ref r64), .val (.ref r65), .val (.int w13), .val (.int z66), .val (.int (1 : Int32)), .val (.ref b71), .val (.ref b73), .unset] [])) (by intro t k; exact XS.icmpNo X74.here hx rfl (hb hby at_221) rfl (teq hc221).2 k) ?_
                refine go (T' := T74) (f' := (mkF m 226 #[.val (.int p0), .val (.int p1), .val (.int p2), .val (.int p3), .val (.int p4), .val (.int w5), .val (.int w6), .val (.int z1), .val (.int z2), .val (.int (2 : Int32)), .val (.int (2 : Int32)), .val (.ref r64), .val (.ref r65), .val (.int w13), .val (.int z66), .val (.int (1 : Int32)), .val (.ref b71), .val (.ref b73), .unset] [(.int (2 : Int32))])) (by intro t k; exact XS.iload X74.here hx rfl (hb hby at_224) rfl k) ?_
                refine go (T' := T74) (f' := (mkF m 228 #[.val (.int p0), .val (.int p1), .val (.int p2), .val (.int p3), .val (.int p4), .val (.int w5), .val (.int w6), .val (.int z1), .val (.int z2), .val (.int (2 : Int32)), .val (.int (2 : Int32)), .val (.ref r64), .val (.ref r65), .val (.int w13), .val (.int z66), .val (.int (1 : Int32)), .val (.ref b71), .val (.ref b73), .unset] [(.int (2 : Int32)), (.int (2 : Int32))])) (by intro t k; exact XS.iload X74.here hx rfl (hb hby at_226) rfl k) ?_
                refine go (T' := T74) (f' := (mkF m 231 #[.val (.int p0), .val (.int p1), .val (.int p2), .val (.int p3), .val (.int p4), .val (.int w5), .val (.int w6), .val (.int z1), .val (.int z2), .val (.int (2 : Int32)), .val (.int (2 : Int32)), .val (.ref r64), .val (.ref r65), .val (.int w13), .val (.int z66), .val (.int (1 : Int32)), .val (.ref b71), .val (.ref b73), .unset] [])) (by intro t k; exact XS.icmpNo X74.here hx rfl (hb hby at_228) rfl (teq (rfl : (2 : Int32) = (2 : Int32))).2 k) ?_
                refine go (T' := T74) (f' := (mkF m 233 #[.val (.int p0), .val (.int p1), .val (.int p2), .val (.int p3), .val (.int p4), .val (.int w5), .val (.int w6), .val (.int z1), .val (.int z2), .val (.int (2 : Int32)), .val (.int (2 : Int32)), .val (.ref r64), .val (.ref r65), .val (.int w13), .val (.int z66), .val (.int (1 : Int32)), .val (.ref b71), .val (.ref b73), .unset] [(.int w5)])) (by intro t k; exact XS.iload X74.here hx rfl (hb hby at_231) rfl k) ?_
                refine go (T' := T74) (f' := (mkF m 235 #[.val (.int p0), .val (.int p1), .val (.int p2), .val (.int p3), .val (.int p4), .val (.int w5), .val (.int w6), .val (.int z1), .val (.int z2), .val (.int (2 : Int32)), .val (.int (2 : Int32)), .val (.ref r64), .val (.ref r65), .val (.int w13), .val (.int z66), .val (.int (1 : Int32)), .val (.ref b71), .val (.ref b73), .unset] [(.int z1), (.int w5)])) (by intro t k; exact XS.iload X74.here hx rfl (hb hby at_233) rfl k) ?_
                by_cases hc235 : w5 = z1
                · refine go (T' := T74) (f' := (mkF m 238 #[.val (.int p0), .val (.int p1), .val (.int p2), .val (.int p3), .val (.int p4), .val (.int w5), .val (.int w6), .val (.int z1), .val (.int z2), .val (.int (2 : Int32)), .val (.int (2 : Int32)), .val (.ref r64), .val (.ref r65), .val (.int w13), .val (.int z66), .val (.int (1 : Int32)), .val (.ref b71), .val (.ref b73), .unset] [])) (by intro t k; exact XS.icmpNo X74.here hx rfl (hb hby at_235) rfl (teq hc235).2 k) ?_
                  refine go (T' := T74) (f' := (mkF m 240 #[.val (.int p0), .val (.int p1), .val (.int p2), .val (.int p3), .val (.int p4), .val (.int w5), .val (.int w6), .val (.int z1), .val (.int z2), .val (.int (2 : Int32)), .val (.int (2 : Int32)), .val (.ref r64), .val (.ref r65), .val (.int w13), .val (.int z66), .val (.int (1 : Int32)), .val (.ref b71), .val (.ref b73), .unset] [(.int (2 : Int32))])) (by intro t k; exact XS.iload X74.here hx rfl (hb hby at_238) rfl k) ?_
                  refine go (T' := T74) (f' := (mkF m 241 #[.val (.int p0), .val (.int p1), .val (.int p2), .val (.int p3), .val (.int p4), .val (.int w5), .val (.int w6), .val (.int z1), .val (.int z2), .val (.int (2 : Int32)), .val (.int (2 : Int32)), .val (.ref r64), .val (.ref r65), .val (.int w13), .val (.int z66), .val (.int (1 : Int32)), .val (.ref b71), .val (.ref b73), .unset] [(.int (1 : Int32)), (.int (2 : Int32))])) (by intro t k; exact XS.iconst X74.here hx rfl (hb hby at_240) k) ?_
                  refine go (T' := T74) (f' := (mkF m 244 #[.val (.int p0), .val (.int p1), .val (.int p2), .val (.int p3), .val (.int p4), .val (.int w5), .val (.int w6), .val (.int z1), .val (.int z2), .val (.int (2 : Int32)), .val (.int (2 : Int32)), .val (.ref r64), .val (.ref r65), .val (.int w13), .val (.int z66), .val (.int (1 : Int32)), .val (.ref b71), .val (.ref b73), .unset] [])) (by intro t k; exact XS.icmpNo X74.here hx rfl (hb hby at_241) rfl (feq (by decide : ¬ ((2 : Int32) = (1 : Int32)))).1 k) ?_
                  refine go (T' := T74) (f' := (mkF m 246 #[.val (.int p0), .val (.int p1), .val (.int p2), .val (.int p3), .val (.int p4), .val (.int w5), .val (.int w6), .val (.int z1), .val (.int z2), .val (.int (2 : Int32)), .val (.int (2 : Int32)), .val (.ref r64), .val (.ref r65), .val (.int w13), .val (.int z66), .val (.int (1 : Int32)), .val (.ref b71), .val (.ref b73), .unset] [(.int w6)])) (by intro t k; exact XS.iload X74.here hx rfl (hb hby at_244) rfl k) ?_
                  refine go (T' := T74) (f' := (mkF m 248 #[.val (.int p0), .val (.int p1), .val (.int p2), .val (.int p3), .val (.int p4), .val (.int w5), .val (.int w6), .val (.int z1), .val (.int z2), .val (.int (2 : Int32)), .val (.int (2 : Int32)), .val (.ref r64), .val (.ref r65), .val (.int w13), .val (.int z66), .val (.int (1 : Int32)), .val (.ref b71), .val (.ref b73), .unset] [(.int z2), (.int w6)])) (by intro t k; exact XS.iload X74.here hx rfl (hb hby at_246) rfl k) ?_
                  by_cases hc248 : w6 = z2
                  · refine go (T' := T74) (f' := (mkF m 251 #[.val (.int p0), .val (.int p1), .val (.int p2), .val (.int p3), .val (.int p4), .val (.int w5), .val (.int w6), .val (.int z1), .val (.int z2), .val (.int (2 : Int32)), .val (.int (2 : Int32)), .val (.ref r64), .val (.ref r65), .val (.int w13), .val (.int z66), .val (.int (1 : Int32)), .val (.ref b71), .val (.ref b73), .unset] [])) (by intro t k; exact XS.icmpNo X74.here hx rfl (hb hby at_248) rfl (teq hc248).2 k) ?_
                    refine go (T' := T74) (f' := (mkF m 252 #[.val (.int p0), .val (.int p1), .val (.int p2), .val (.int p3), .val (.int p4), .val (.int w5), .val (.int w6), .val (.int z1), .val (.int z2), .val (.int (2 : Int32)), .val (.int (2 : Int32)), .val (.ref r64), .val (.ref r65), .val (.int w13), .val (.int z66), .val (.int (1 : Int32)), .val (.ref b71), .val (.ref b73), .unset] [(.int (1 : Int32))])) (by intro t k; exact XS.iconst X74.here hx rfl (hb hby at_251) k) ?_
                    refine go (T' := T74) (f' := (mkF m 256 #[.val (.int p0), .val (.int p1), .val (.int p2), .val (.int p3), .val (.int p4), .val (.int w5), .val (.int w6), .val (.int z1), .val (.int z2), .val (.int (2 : Int32)), .val (.int (2 : Int32)), .val (.ref r64), .val (.ref r65), .val (.int w13), .val (.int z66), .val (.int (1 : Int32)), .val (.ref b71), .val (.ref b73), .unset] [(.int (1 : Int32))])) (by intro t k; exact XS.goto X74.here hx rfl (pc0 := 252) (pc' := 256) rfl (hb hby at_252) (by decide) (by decide) k) ?_
                    have ez75 : z75 = (1 : Int32) := (((hz75).trans (if_pos hc221)).trans (if_pos hc235)).trans (if_pos hc248)
                    subst ez75
                    exact J221
                  · refine go (T' := T74) (f' := (mkF m 255 #[.val (.int p0), .val (.int p1), .val (.int p2), .val (.int p3), .val (.int p4), .val (.int w5), .val (.int w6), .val (.int z1), .val (.int z2), .val (.int (2 : Int32)), .val (.int (2 : Int32)), .val (.ref r64), .val (.ref r65), .val (.int w13), .val (.int z66), .val (.int (1 : Int32)), .val (.ref b71), .val (.ref b73), .unset] [])) (by intro t k; exact XS.icmpYes X74.here hx rfl (pc0 := 248) (pc' := 255) rfl (hb hby at_248) rfl (feq hc248).2 (by decide) (by decide) k) ?_
                    refine go (T' := T74) (f' := (mkF m 256 #[.val (.int p0), .val (.int p1), .val (.int p2), .val (.int p3), .val (.int p4), .val (.int w5), .val (.int w6), .val (.int z1), .val (.int z2), .val (.int (2 : Int32)), .val (.int (2 : Int32)), .val (.ref r64), .val (.ref r65), .val (.int w13), .val (.int z66), .val (.int (1 : Int32)), .val (.ref b71), .val (.ref b73), .unset] [(.int (0 : Int32))])) (by intro t k; exact XS.iconst X74.here hx rfl (hb hby at_255) k) ?_
                    have ez75 : z75 = (0 : Int32) := (((hz75).trans (if_pos hc221)).trans (if_pos hc235)).trans (if_neg hc248)
                    subst ez75
                    exact J221
                · refine go (T' := T74) (f' := (mkF m 255 #[.val (.int p0), .val (.int p1), .val (.int p2), .val (.int p3), .val (.int p4), .val (.int w5), .val (.int w6), .val (.int z1), .val (.int z2), .val (.int (2 : Int32)), .val (.int (2 : Int32)), .val (.ref r64), .val (.ref r65), .val (.int w13), .val (.int z66), .val (.int (1 : Int32)), .val (.ref b71), .val (.ref b73), .unset] [])) (by intro t k; exact XS.icmpYes X74.here hx rfl (pc0 := 235) (pc' := 255) rfl (hb hby at_235) rfl (feq hc235).2 (by decide) (by decide) k) ?_
                  refine go (T' := T74) (f' := (mkF m 256 #[.val (.int p0), .val (.int p1), .val (.int p2), .val (.int p3), .val (.int p4), .val (.int w5), .val (.int w6), .val (.int z1), .val (.int z2), .val (.int (2 : Int32)), .val (.int (2 : Int32)), .val (.ref r64), .val (.ref r65), .val (.int w13), .val (.int z66), .val (.int (1 : Int32)), .val (.ref b71), .val (.ref b73), .unset] [(.int (0 : Int32))])) (by intro t k; exact XS.iconst X74.here hx rfl (hb hby at_255) k) ?_
                  have ez75 : z75 = (0 : Int32) := ((hz75).trans (if_pos hc221)).trans (if_neg hc235)
                  subst ez75
                  exact J221
              · refine go (T' := T74) (f' := (mkF m 255 #[.val (.int p0), .val (.int p1), .val (.int p2), .val (.int p3), .val (.int p4), .val (.int w5), .val (.int w6), .val (.int z1), .val (.int z2), .val (.int (2 : Int32)), .val (.int (2 : Int32)), .val (.ref r64), .val (.ref r65), .val (.int w13), .val (.int z66), .val (.int (1 : Int32)), .val (.ref b71), .val (.ref b73), .unset] [])) (by intro t k; exact XS.icmpYes X74.here hx rfl (pc0 := 221) (pc' := 255) rfl (hb hby at_221) rfl (feq hc221).2 (by decide) (by decide) k) ?_
                refine go (T' := T74) (f' := (mkF m 256 #[.val (.int p0), .val (.int p1), .val (.int p2), .val (.int p3), .val (.int p4), .val (.int w5), .val (.int w6), .val (.int z1), .val (.int z2), .val (.int (2 : Int32)), .val (.int (2 : Int32)), .val (.ref r64), .val (.ref r65), .val (.int w13), .val (.int z66), .val (.int (1 : Int32)), .val (.ref b71), .val (.ref b73), .unset] [(.int (0 : Int32))])) (by intro t k; exact XS.iconst X74.here hx rfl (hb hby at_255) k) ?_
                have ez75 : z75 = (0 : Int32) := (hz75).trans (if_neg hc221)
                subst ez75
                exact J221
            · subst ez
              show Run _ _ _ _ _ _ _ T65 (mkF m 135 #[.val (.int p0), .val (.int p1), .val (.int p2), .val (.int p3), .val (.int p4), .val (.int w5), .val (.int w6), .val (.int z1), .val (.int z2), .val (.int (2 : Int32)), .val (.int (2 : Int32)), .val (.ref r64), .val (.ref r65), .val (.int w13), .val (.int z66), .val (.int (2 : Int32)), .unset, .unset, .unset] [])
              obtain ⟨T78, h78, X78, e78, E78, A78, D78, -, st78⟩ := newO X65 hx hZ hown (hw _ (List.mem_of_getElem? (i := 35) rfl)) (hw _ (List.mem_of_getElem? (i := 36) rfl)) (hw _ (List.mem_of_getElem? (i := 37) rfl)) rfl (g := (mkF m 135 #[.val (.int p0), .val (.int p1), .val (.int p2), .val (.int p3), .val (.int p4), .val (.int w5), .val (.int w6), .val (.int z1), .val (.int z2), .val (.int (2 : Int32)), .val (.int (2 : Int32)), .val (.ref r64), .val (.ref r65), .val (.int w13), .val (.int z66), .val (.int (2 : Int32)), .unset, .unset, .unset] [])) rfl (hb hby at_135) (by decide) (by decide)
              obtain ⟨b78, g78⟩ : ∃ z, z = T65.heap.size := ⟨_, rfl⟩
              rw [← g78] at A78 D78 st78
              have ne_r64_b78 : r64 ≠ b78 := Nat.ne_of_lt (Nat.lt_of_lt_of_eq E65_r64.lt g78.symm)
              have ne_r65_b78 : r65 ≠ b78 := Nat.ne_of_lt (Nat.lt_of_lt_of_eq E65.lt g78.symm)
              have ne_sb64_b78 : sb64 ≠ b78 := Nat.ne_of_lt (Nat.lt_of_lt_of_eq A65_sb64.lt g78.symm)
              have ne_sb65_b78 : sb65 ≠ b78 := Nat.ne_of_lt (Nat.lt_of_lt_of_eq Ab65.lt g78.symm)
              have ge_b78 : n0 ≤ b78 := Nat.le_trans Z65 (Nat.le_of_eq g78.symm)
              have K78 : Keep T65.heap h78 [] := (Keep.refl _ _).ext E78
              have E78_r64 := Exa.keep E65_r64 K78
              have E78_r65 := Exa.keep E65 K78
              have F78_r64_coder := Fld.keep F65_r64_coder K78 nin0
              have F78_r64_value := Fld.keep F65_r64_value K78 nin0
              have F78_r65_coder := Fld.keep Fc65 K78 nin0
              have F78_r65_value := Fld.keep Fv65 K78 nin0
              have A78_sb64 := Ary.keep A65_sb64 K78 nin0
              have A78_sb65 := Ary.keep Ab65 K78 nin0
              have O78 : Old Z n0 h78 := O65.keep K78 all0
              have Z78 : n0 ≤ h78.size := Nat.le_trans Z65 K78.1
              have F78_b78_name : Fld Z h78 b78 "com/example/backchain/backchain/model/Predicate" "name" "Ljava/lang/String;" .null := D78 (Or.inr (hw _ (List.mem_of_getElem? (i := 48) rfl))) (ty := (.object "java/lang/String")) (by decide)
              have F78_b78_arity : Fld Z h78 b78 "com/example/backchain/backchain/model/Predicate" "arity" "I" (.int (0 : Int32)) := D78 (Or.inr (hw _ (List.mem_of_getElem? (i := 50) rfl))) (ty := .int) (by decide)
              refine go st78 ?_
              show Run _ _ _ _ _ _ _ T78 (mkF m 138 #[.val (.int p0), .val (.int p1), .val (.int p2), .val (.int p3), .val (.int p4), .val (.int w5), .val (.int w6), .val (.int z1), .val (.int z2), .val (.int (2 : Int32)), .val (.int (2 : Int32)), .val (.ref r64), .val (.ref r65), .val (.int w13), .val (.int z66), .val (.int (2 : Int32)), .unset, .unset, .unset] [(.ref b78)])
              refine go (T' := T78) (f' := (mkF m 139 #[.val (.int p0), .val (.int p1), .val (.int p2), .val (.int p3), .val (.int p4), .val (.int w5), .val (.int w6), .val (.int z1), .val (.int z2), .val (.int (2 : Int32)), .val (.int (2 : Int32)), .val (.ref r64), .val (.ref r65), .val (.int w13), .val (.int z66), .val (.int (2 : Int32)), .unset, .unset, .unset] [(.ref b78), (.ref b78)])) (by intro t k; exact XS.dup X78.here hx rfl (hb hby at_138) rfl rfl k) ?_
              refine go (T' := T78) (f' := (mkF m 141 #[.val (.int p0), .val (.int p1), .val (.int p2), .val (.int p3), .val (.int p4), .val (.int w5), .val (.int w6), .val (.int z1), .val (.int z2), .val (.int (2 : Int32)), .val (.int (2 : Int32)), .val (.ref r64), .val (.ref r65), .val (.int w13), .val (.int z66), .val (.int (2 : Int32)), .unset, .unset, .unset] [(.ref r64), (.ref b78), (.ref b78)])) (by intro t k; exact XS.aload X78.here hx rfl (hb hby at_139) rfl rfl k) ?_
              refine go (T' := T78) (f' := (mkF m 143 #[.val (.int p0), .val (.int p1), .val (.int p2), .val (.int p3), .val (.int p4), .val (.int w5), .val (.int w6), .val (.int z1), .val (.int z2), .val (.int (2 : Int32)), .val (.int (2 : Int32)), .val (.ref r64), .val (.ref r65), .val (.int w13), .val (.int z66), .val (.int (2 : Int32)), .unset, .unset, .unset] [(.int w13), (.ref r64), (.ref b78), (.ref b78)])) (by intro t k; exact XS.iload X78.here hx rfl (hb hby at_141) rfl k) ?_
              obtain ⟨_, _, ⟨T79, Lz79, kz79, nz79⟩, -, X79, ⟨Lc79, hQ79, lz79, yz79, zz79⟩, st79⟩ := X78.specialBack hx (y := (⟨"com/example/backchain/backchain/model/Predicate", "<init>", "(Ljava/lang/String;I)V"⟩ : MethodName)) rfl hown (mvT hZ (hw _ (List.mem_of_getElem? (i := 38) rfl))) (mvT hZ (hw _ (List.mem_of_getElem? (i := 39) rfl))) (mvT hZ (hw _ (List.mem_of_getElem? (i := 40) rfl))) (by decide) (backOf (W := 1) (rm8 l Z aw hw [] b78 r64 w13 sb64 [(.int (nar .byte (((nar .char w5)).toInt8.toInt32))), (.int (nar .byte (((nar .char w6)).toInt8.toInt32)))] (2 : Int32) h78 n0 Z78 A78 F78_b78_name F78_b78_arity ge_b78 E78_r64 F78_r64_value A78_sb64 (Ne.symm ne_r64_b78) (Ne.symm ne_sb64_b78) rfl (by decide) ha13) hZ (hw _ (List.mem_of_getElem? (i := 40) rfl)) (hw _ (List.mem_of_getElem? (i := 37) rfl)) (by decide) (by decide)) (g := (mkF m 143 #[.val (.int p0), .val (.int p1), .val (.int p2), .val (.int p3), .val (.int p4), .val (.int w5), .val (.int w6), .val (.int z1), .val (.int z2), .val (.int (2 : Int32)), .val (.int (2 : Int32)), .val (.ref r64), .val (.ref r65), .val (.int w13), .val (.int z66), .val (.int (2 : Int32)), .unset, .unset, .unset] [(.int w13), (.ref r64), (.ref b78), (.ref b78)])) rfl (by rw [hml]; rfl) (Steps.refl _) (a := b78) (argsL := [(.ref r64), (.int w13)]) (rest := [(.ref b78)]) (lenOf pd_28Ljava2flang2fString3bI29V rfl) rfl (by show 2 * 0 + _ ≤ _; exact Nat.le_of_eq rfl) (hb hby at_143) (fun _ _ => ⟨rfl, e78, (by decide : 7 + 0 ≤ _), (by decide : 18 + 0 ≤ _)⟩)
              dsimp only [Pt.U, Pt.locs, Pt.cells, Pt.slots] at X79 lz79 yz79 zz79 st79 hQ79
              subst lz79 yz79 zz79
              obtain ⟨rfl, N79q, K79, Fn79, Fa79⟩ := hQ79
              have E79_r64 := Exa.keep E78_r64 K79
              have E79_r65 := Exa.keep E78_r65 K79
              have E79_b78 := Exa.keep A78 K79
              have F79_r64_coder := Fld.keep F78_r64_coder K79 (ninS ne_r64_b78 nin0)
              have F79_r64_value := Fld.keep F78_r64_value K79 (ninS ne_r64_b78 nin0)
              have F79_r65_coder := Fld.keep F78_r65_coder K79 (ninS ne_r65_b78 nin0)
              have F79_r65_value := Fld.keep F78_r65_value K79 (ninS ne_r65_b78 nin0)
              have A79_sb64 := Ary.keep A78_sb64 K79 (ninS ne_sb64_b78 nin0)
              have A79_sb65 := Ary.keep A78_sb65 K79 (ninS ne_sb65_b78 nin0)
              have O79 : Old Z n0 T79.heap := O78.keep K79 (allS ge_b78 all0)
              have Z79 : n0 ≤ T79.heap.size := Nat.le_trans Z78 K79.1
              have N79 := Fr.app N65 N79q
              refine go (fun _ k => st79.trans k) ?_
              show Run _ _ _ _ _ _ _ T79 (mkF m 146 #[.val (.int p0), .val (.int p1), .val (.int p2), .val (.int p3), .val (.int p4), .val (.int w5), .val (.int w6), .val (.int z1), .val (.int z2), .val (.int (2 : Int32)), .val (.int (2 : Int32)), .val (.ref r64), .val (.ref r65), .val (.int w13), .val (.int z66), .val (.int (2 : Int32)), .unset, .unset, .unset] [(.ref b78)])
              refine go (T' := T79) (f' := (mkF m 148 #[.val (.int p0), .val (.int p1), .val (.int p2), .val (.int p3), .val (.int p4), .val (.int w5), .val (.int w6), .val (.int z1), .val (.int z2), .val (.int (2 : Int32)), .val (.int (2 : Int32)), .val (.ref r64), .val (.ref r65), .val (.int w13), .val (.int z66), .val (.int (2 : Int32)), .val (.ref b78), .unset, .unset] [])) (by intro t k; exact XS.astore X79.here hx rfl (hb hby at_146) rfl rfl (l' := #[.val (.int p0), .val (.int p1), .val (.int p2), .val (.int p3), .val (.int p4), .val (.int w5), .val (.int w6), .val (.int z1), .val (.int z2), .val (.int (2 : Int32)), .val (.int (2 : Int32)), .val (.ref r64), .val (.ref r65), .val (.int w13), .val (.int z66), .val (.int (2 : Int32)), .val (.ref b78), .unset, .unset]) rfl k) ?_
              refine go (T' := T79) (f' := (mkF m 150 #[.val (.int p0), .val (.int p1), .val (.int p2), .val (.int p3), .val (.int p4), .val (.int w5), .val (.int w6), .val (.int z1), .val (.int z2), .val (.int (2 : Int32)), .val (.int (2 : Int32)), .val (.ref r64), .val (.ref r65), .val (.int w13), .val (.int z66), .val (.int (2 : Int32)), .val (.ref b78), .unset, .unset] [(.int (2 : Int32))])) (by intro t k; exact XS.iload X79.here hx rfl (hb hby at_148) rfl k) ?_
              refine go (T' := T79) (f' := (mkF m 161 #[.val (.int p0), .val (.int p1), .val (.int p2), .val (.int p3), .val (.int p4), .val (.int w5), .val (.int w6), .val (.int z1), .val (.int z2), .val (.int (2 : Int32)), .val (.int (2 : Int32)), .val (.ref r64), .val (.ref r65), .val (.int w13), .val (.int z66), .val (.int (2 : Int32)), .val (.ref b78), .unset, .unset] [])) (by intro t k; exact XS.ifYes X79.here hx rfl (pc0 := 150) (pc' := 161) rfl (hb hby at_150) rfl ((if0 _ _).trans (feq (by decide : ¬ ((2 : Int32) = (0 : Int32)))).2) (by decide) (by decide) k) ?_
              refine go (T' := T79) (f' := (mkF m 163 #[.val (.int p0), .val (.int p1), .val (.int p2), .val (.int p3), .val (.int p4), .val (.int w5), .val (.int w6), .val (.int z1), .val (.int z2), .val (.int (2 : Int32)), .val (.int (2 : Int32)), .val (.ref r64), .val (.ref r65), .val (.int w13), .val (.int z66), .val (.int (2 : Int32)), .val (.ref b78), .unset, .unset] [(.int (2 : Int32))])) (by intro t k; exact XS.iload X79.here hx rfl (hb hby at_161) rfl k) ?_
              refine go (T' := T79) (f' := (mkF m 164 #[.val (.int p0), .val (.int p1), .val (.int p2), .val (.int p3), .val (.int p4), .val (.int w5), .val (.int w6), .val (.int z1), .val (.int z2), .val (.int (2 : Int32)), .val (.int (2 : Int32)), .val (.ref r64), .val (.ref r65), .val (.int w13), .val (.int z66), .val (.int (2 : Int32)), .val (.ref b78), .unset, .unset] [(.int (2 : Int32)), (.int (2 : Int32))])) (by intro t k; exact XS.iconst X79.here hx rfl (hb hby at_163) k) ?_
              refine go (T' := T79) (f' := (mkF m 167 #[.val (.int p0), .val (.int p1), .val (.int p2), .val (.int p3), .val (.int p4), .val (.int w5), .val (.int w6), .val (.int z1), .val (.int z2), .val (.int (2 : Int32)), .val (.int (2 : Int32)), .val (.ref r64), .val (.ref r65), .val (.int w13), .val (.int z66), .val (.int (2 : Int32)), .val (.ref b78), .unset, .unset] [])) (by intro t k; exact XS.icmpNo X79.here hx rfl (hb hby at_164) rfl (teq (rfl : (2 : Int32) = (2 : Int32))).2 k) ?_
              refine go (T' := T79) (f' := (mkF m 169 #[.val (.int p0), .val (.int p1), .val (.int p2), .val (.int p3), .val (.int p4), .val (.int w5), .val (.int w6), .val (.int z1), .val (.int z2), .val (.int (2 : Int32)), .val (.int (2 : Int32)), .val (.ref r64), .val (.ref r65), .val (.int w13), .val (.int z66), .val (.int (2 : Int32)), .val (.ref b78), .unset, .unset] [(.ref b78)])) (by intro t k; exact XS.aload X79.here hx rfl (hb hby at_167) rfl rfl k) ?_
              refine go (T' := T79) (f' := (mkF m 171 #[.val (.int p0), .val (.int p1), .val (.int p2), .val (.int p3), .val (.int p4), .val (.int w5), .val (.int w6), .val (.int z1), .val (.int z2), .val (.int (2 : Int32)), .val (.int (2 : Int32)), .val (.ref r64), .val (.ref r65), .val (.int w13), .val (.int z66), .val (.int (2 : Int32)), .val (.ref b78), .unset, .unset] [(.ref r64), (.ref b78)])) (by intro t k; exact XS.aload X79.here hx rfl (hb hby at_169) rfl rfl k) ?_
              obtain ⟨cq80, kq80, q80a, q80b, q80c⟩ := isOf hZ rfl E79_b78
              obtain ⟨_, _, ⟨T80, Lz80, kz80, nz80⟩, -, X80, ⟨Lc80, hQ80, lz80, yz80, zz80⟩, st80⟩ := X79.virtualBack hx (y := (⟨"com/example/backchain/backchain/model/Predicate", "equals", "(Ljava/lang/Object;)Z"⟩ : MethodName)) (z := (⟨"com/example/backchain/backchain/model/Predicate", "equals", "(Ljava/lang/Object;)Z"⟩ : MethodName)) hown (mvT hZ (hw _ (List.mem_of_getElem? (i := 51) rfl))) (mvT hZ (hw _ (List.mem_of_getElem? (i := 52) rfl))) (notFace_of_selects (args := #[]) (mvT hZ (hw _ (List.mem_of_getElem? (i := 54) rfl)))) (mvT hZ (hw _ (List.mem_of_getElem? (i := 54) rfl))) (mvT hZ (hw _ (List.mem_of_getElem? (i := 53) rfl))) (by decide) (backOf (W := 0) (rm10t l Z aw hw [] b78 r64  T79.heap n0 Z79 E79_r64 (Ne.symm ne_r64_b78)) hZ (hw _ (List.mem_of_getElem? (i := 55) rfl)) (hw _ (List.mem_of_getElem? (i := 37) rfl)) (by decide) (by decide)) q80a q80c (g := (mkF m 171 #[.val (.int p0), .val (.int p1), .val (.int p2), .val (.int p3), .val (.int p4), .val (.int w5), .val (.int w6), .val (.int z1), .val (.int z2), .val (.int (2 : Int32)), .val (.int (2 : Int32)), .val (.ref r64), .val (.ref r65), .val (.int w13), .val (.int z66), .val (.int (2 : Int32)), .val (.ref b78), .unset, .unset] [(.ref r64), (.ref b78)])) rfl (by rw [hml]; rfl) (Steps.refl _) (argsL := [(.ref r64)]) (rest := []) (lenOf pd_28Ljava2flang2fObject3b29Z rfl) rfl (by show 2 * 0 + _ ≤ _; exact Nat.le_of_eq rfl) (hb hby at_171) (fun _ _ => ⟨rfl, rfl, (by decide : 7 + 0 ≤ _), (by decide : 18 + 0 ≤ _)⟩)
              dsimp only [Pt.U, Pt.locs, Pt.cells, Pt.slots] at X80 lz80 yz80 zz80 st80 hQ80
              subst lz80 yz80 zz80
              obtain ⟨rfl, N80q, e80⟩ := hQ80
              have N80 := Fr.app N79 N80q
              refine go (fun _ k => st80.trans k) ?_
              show Run _ _ _ _ _ _ _ T80 (mkF m 174 #[.val (.int p0), .val (.int p1), .val (.int p2), .val (.int p3), .val (.int p4), .val (.int w5), .val (.int w6), .val (.int z1), .val (.int z2), .val (.int (2 : Int32)), .val (.int (2 : Int32)), .val (.ref r64), .val (.ref r65), .val (.int w13), .val (.int z66), .val (.int (2 : Int32)), .val (.ref b78), .unset, .unset] [(.int (0 : Int32))])
              refine go (T' := T80) (f' := (mkF m 177 #[.val (.int p0), .val (.int p1), .val (.int p2), .val (.int p3), .val (.int p4), .val (.int w5), .val (.int w6), .val (.int z1), .val (.int z2), .val (.int (2 : Int32)), .val (.int (2 : Int32)), .val (.ref r64), .val (.ref r65), .val (.int w13), .val (.int z66), .val (.int (2 : Int32)), .val (.ref b78), .unset, .unset] [])) (by intro t k; exact XS.ifNo X80.here hx rfl (hb hby at_174) rfl ((if0 _ _).trans (teq (rfl : (0 : Int32) = (0 : Int32))).2) k) ?_
              refine go (T' := T80) (f' := (mkF m 178 #[.val (.int p0), .val (.int p1), .val (.int p2), .val (.int p3), .val (.int p4), .val (.int w5), .val (.int w6), .val (.int z1), .val (.int z2), .val (.int (2 : Int32)), .val (.int (2 : Int32)), .val (.ref r64), .val (.ref r65), .val (.int w13), .val (.int z66), .val (.int (2 : Int32)), .val (.ref b78), .unset, .unset] [(.int (1 : Int32))])) (by intro t k; exact XS.iconst X80.here hx rfl (hb hby at_177) k) ?_
              refine go (T' := T80) (f' := (mkF m 182 #[.val (.int p0), .val (.int p1), .val (.int p2), .val (.int p3), .val (.int p4), .val (.int w5), .val (.int w6), .val (.int z1), .val (.int z2), .val (.int (2 : Int32)), .val (.int (2 : Int32)), .val (.ref r64), .val (.ref r65), .val (.int w13), .val (.int z66), .val (.int (2 : Int32)), .val (.ref b78), .unset, .unset] [(.int (1 : Int32))])) (by intro t k; exact XS.goto X80.here hx rfl (pc0 := 178) (pc' := 182) rfl (hb hby at_178) (by decide) (by decide) k) ?_
              refine retZ X80 hx (t := .boolean) Bd.returns (by simp) (hb hby at_182) hlk (by decide) (by decide) ?_
              show Q0 Z p0 p1 p2 p3 p4 cs h0 n0 _ T80.heap _
              rw [e80]
              have hv' : (nar .boolean (1 : Int32)) = (1 : Int32) := by
                rfl
              have hv : (some (.int (nar .boolean (1 : Int32))) : Option Value) = some (.int (1 : Int32)) := congrArg (fun z => (some (.int z) : Option Value)) hv'
              exact ⟨hv, N80⟩
            · subst ez
              show Run _ _ _ _ _ _ _ T65 (mkF m 135 #[.val (.int p0), .val (.int p1), .val (.int p2), .val (.int p3), .val (.int p4), .val (.int w5), .val (.int w6), .val (.int z1), .val (.int z2), .val (.int (2 : Int32)), .val (.int (2 : Int32)), .val (.ref r64), .val (.ref r65), .val (.int w13), .val (.int z66), .val (.int (3 : Int32)), .unset, .unset, .unset] [])
              obtain ⟨T81, h81, X81, e81, E81, A81, D81, -, st81⟩ := newO X65 hx hZ hown (hw _ (List.mem_of_getElem? (i := 35) rfl)) (hw _ (List.mem_of_getElem? (i := 36) rfl)) (hw _ (List.mem_of_getElem? (i := 37) rfl)) rfl (g := (mkF m 135 #[.val (.int p0), .val (.int p1), .val (.int p2), .val (.int p3), .val (.int p4), .val (.int w5), .val (.int w6), .val (.int z1), .val (.int z2), .val (.int (2 : Int32)), .val (.int (2 : Int32)), .val (.ref r64), .val (.ref r65), .val (.int w13), .val (.int z66), .val (.int (3 : Int32)), .unset, .unset, .unset] [])) rfl (hb hby at_135) (by decide) (by decide)
              obtain ⟨b81, g81⟩ : ∃ z, z = T65.heap.size := ⟨_, rfl⟩
              rw [← g81] at A81 D81 st81
              have ne_r64_b81 : r64 ≠ b81 := Nat.ne_of_lt (Nat.lt_of_lt_of_eq E65_r64.lt g81.symm)
              have ne_r65_b81 : r65 ≠ b81 := Nat.ne_of_lt (Nat.lt_of_lt_of_eq E65.lt g81.symm)
              have ne_sb64_b81 : sb64 ≠ b81 := Nat.ne_of_lt (Nat.lt_of_lt_of_eq A65_sb64.lt g81.symm)
              have ne_sb65_b81 : sb65 ≠ b81 := Nat.ne_of_lt (Nat.lt_of_lt_of_eq Ab65.lt g81.symm)
              have ge_b81 : n0 ≤ b81 := Nat.le_trans Z65 (Nat.le_of_eq g81.symm)
              have K81 : Keep T65.heap h81 [] := (Keep.refl _ _).ext E81
              have E81_r64 := Exa.keep E65_r64 K81
              have E81_r65 := Exa.keep E65 K81
              have F81_r64_coder := Fld.keep F65_r64_coder K81 nin0
              have F81_r64_value := Fld.keep F65_r64_value K81 nin0
              have F81_r65_coder := Fld.keep Fc65 K81 nin0
              have F81_r65_value := Fld.keep Fv65 K81 nin0
              have A81_sb64 := Ary.keep A65_sb64 K81 nin0
              have A81_sb65 := Ary.keep Ab65 K81 nin0
              have O81 : Old Z n0 h81 := O65.keep K81 all0
              have Z81 : n0 ≤ h81.size := Nat.le_trans Z65 K81.1
              have F81_b81_name : Fld Z h81 b81 "com/example/backchain/backchain/model/Predicate" "name" "Ljava/lang/String;" .null := D81 (Or.inr (hw _ (List.mem_of_getElem? (i := 48) rfl))) (ty := (.object "java/lang/String")) (by decide)
              have F81_b81_arity : Fld Z h81 b81 "com/example/backchain/backchain/model/Predicate" "arity" "I" (.int (0 : Int32)) := D81 (Or.inr (hw _ (List.mem_of_getElem? (i := 50) rfl))) (ty := .int) (by decide)
              refine go st81 ?_
              show Run _ _ _ _ _ _ _ T81 (mkF m 138 #[.val (.int p0), .val (.int p1), .val (.int p2), .val (.int p3), .val (.int p4), .val (.int w5), .val (.int w6), .val (.int z1), .val (.int z2), .val (.int (2 : Int32)), .val (.int (2 : Int32)), .val (.ref r64), .val (.ref r65), .val (.int w13), .val (.int z66), .val (.int (3 : Int32)), .unset, .unset, .unset] [(.ref b81)])
              refine go (T' := T81) (f' := (mkF m 139 #[.val (.int p0), .val (.int p1), .val (.int p2), .val (.int p3), .val (.int p4), .val (.int w5), .val (.int w6), .val (.int z1), .val (.int z2), .val (.int (2 : Int32)), .val (.int (2 : Int32)), .val (.ref r64), .val (.ref r65), .val (.int w13), .val (.int z66), .val (.int (3 : Int32)), .unset, .unset, .unset] [(.ref b81), (.ref b81)])) (by intro t k; exact XS.dup X81.here hx rfl (hb hby at_138) rfl rfl k) ?_
              refine go (T' := T81) (f' := (mkF m 141 #[.val (.int p0), .val (.int p1), .val (.int p2), .val (.int p3), .val (.int p4), .val (.int w5), .val (.int w6), .val (.int z1), .val (.int z2), .val (.int (2 : Int32)), .val (.int (2 : Int32)), .val (.ref r64), .val (.ref r65), .val (.int w13), .val (.int z66), .val (.int (3 : Int32)), .unset, .unset, .unset] [(.ref r64), (.ref b81), (.ref b81)])) (by intro t k; exact XS.aload X81.here hx rfl (hb hby at_139) rfl rfl k) ?_
              refine go (T' := T81) (f' := (mkF m 143 #[.val (.int p0), .val (.int p1), .val (.int p2), .val (.int p3), .val (.int p4), .val (.int w5), .val (.int w6), .val (.int z1), .val (.int z2), .val (.int (2 : Int32)), .val (.int (2 : Int32)), .val (.ref r64), .val (.ref r65), .val (.int w13), .val (.int z66), .val (.int (3 : Int32)), .unset, .unset, .unset] [(.int w13), (.ref r64), (.ref b81), (.ref b81)])) (by intro t k; exact XS.iload X81.here hx rfl (hb hby at_141) rfl k) ?_
              obtain ⟨_, _, ⟨T82, Lz82, kz82, nz82⟩, -, X82, ⟨Lc82, hQ82, lz82, yz82, zz82⟩, st82⟩ := X81.specialBack hx (y := (⟨"com/example/backchain/backchain/model/Predicate", "<init>", "(Ljava/lang/String;I)V"⟩ : MethodName)) rfl hown (mvT hZ (hw _ (List.mem_of_getElem? (i := 38) rfl))) (mvT hZ (hw _ (List.mem_of_getElem? (i := 39) rfl))) (mvT hZ (hw _ (List.mem_of_getElem? (i := 40) rfl))) (by decide) (backOf (W := 1) (rm8 l Z aw hw [] b81 r64 w13 sb64 [(.int (nar .byte (((nar .char w5)).toInt8.toInt32))), (.int (nar .byte (((nar .char w6)).toInt8.toInt32)))] (2 : Int32) h81 n0 Z81 A81 F81_b81_name F81_b81_arity ge_b81 E81_r64 F81_r64_value A81_sb64 (Ne.symm ne_r64_b81) (Ne.symm ne_sb64_b81) rfl (by decide) ha13) hZ (hw _ (List.mem_of_getElem? (i := 40) rfl)) (hw _ (List.mem_of_getElem? (i := 37) rfl)) (by decide) (by decide)) (g := (mkF m 143 #[.val (.int p0), .val (.int p1), .val (.int p2), .val (.int p3), .val (.int p4), .val (.int w5), .val (.int w6), .val (.int z1), .val (.int z2), .val (.int (2 : Int32)), .val (.int (2 : Int32)), .val (.ref r64), .val (.ref r65), .val (.int w13), .val (.int z66), .val (.int (3 : Int32)), .unset, .unset, .unset] [(.int w13), (.ref r64), (.ref b81), (.ref b81)])) rfl (by rw [hml]; rfl) (Steps.refl _) (a := b81) (argsL := [(.ref r64), (.int w13)]) (rest := [(.ref b81)]) (lenOf pd_28Ljava2flang2fString3bI29V rfl) rfl (by show 2 * 0 + _ ≤ _; exact Nat.le_of_eq rfl) (hb hby at_143) (fun _ _ => ⟨rfl, e81, (by decide : 7 + 0 ≤ _), (by decide : 18 + 0 ≤ _)⟩)
              dsimp only [Pt.U, Pt.locs, Pt.cells, Pt.slots] at X82 lz82 yz82 zz82 st82 hQ82
              subst lz82 yz82 zz82
              obtain ⟨rfl, N82q, K82, Fn82, Fa82⟩ := hQ82
              have E82_r64 := Exa.keep E81_r64 K82
              have E82_r65 := Exa.keep E81_r65 K82
              have E82_b81 := Exa.keep A81 K82
              have F82_r64_coder := Fld.keep F81_r64_coder K82 (ninS ne_r64_b81 nin0)
              have F82_r64_value := Fld.keep F81_r64_value K82 (ninS ne_r64_b81 nin0)
              have F82_r65_coder := Fld.keep F81_r65_coder K82 (ninS ne_r65_b81 nin0)
              have F82_r65_value := Fld.keep F81_r65_value K82 (ninS ne_r65_b81 nin0)
              have A82_sb64 := Ary.keep A81_sb64 K82 (ninS ne_sb64_b81 nin0)
              have A82_sb65 := Ary.keep A81_sb65 K82 (ninS ne_sb65_b81 nin0)
              have O82 : Old Z n0 T82.heap := O81.keep K82 (allS ge_b81 all0)
              have Z82 : n0 ≤ T82.heap.size := Nat.le_trans Z81 K82.1
              have N82 := Fr.app N65 N82q
              refine go (fun _ k => st82.trans k) ?_
              show Run _ _ _ _ _ _ _ T82 (mkF m 146 #[.val (.int p0), .val (.int p1), .val (.int p2), .val (.int p3), .val (.int p4), .val (.int w5), .val (.int w6), .val (.int z1), .val (.int z2), .val (.int (2 : Int32)), .val (.int (2 : Int32)), .val (.ref r64), .val (.ref r65), .val (.int w13), .val (.int z66), .val (.int (3 : Int32)), .unset, .unset, .unset] [(.ref b81)])
              refine go (T' := T82) (f' := (mkF m 148 #[.val (.int p0), .val (.int p1), .val (.int p2), .val (.int p3), .val (.int p4), .val (.int w5), .val (.int w6), .val (.int z1), .val (.int z2), .val (.int (2 : Int32)), .val (.int (2 : Int32)), .val (.ref r64), .val (.ref r65), .val (.int w13), .val (.int z66), .val (.int (3 : Int32)), .val (.ref b81), .unset, .unset] [])) (by intro t k; exact XS.astore X82.here hx rfl (hb hby at_146) rfl rfl (l' := #[.val (.int p0), .val (.int p1), .val (.int p2), .val (.int p3), .val (.int p4), .val (.int w5), .val (.int w6), .val (.int z1), .val (.int z2), .val (.int (2 : Int32)), .val (.int (2 : Int32)), .val (.ref r64), .val (.ref r65), .val (.int w13), .val (.int z66), .val (.int (3 : Int32)), .val (.ref b81), .unset, .unset]) rfl k) ?_
              refine go (T' := T82) (f' := (mkF m 150 #[.val (.int p0), .val (.int p1), .val (.int p2), .val (.int p3), .val (.int p4), .val (.int w5), .val (.int w6), .val (.int z1), .val (.int z2), .val (.int (2 : Int32)), .val (.int (2 : Int32)), .val (.ref r64), .val (.ref r65), .val (.int w13), .val (.int z66), .val (.int (3 : Int32)), .val (.ref b81), .unset, .unset] [(.int (3 : Int32))])) (by intro t k; exact XS.iload X82.here hx rfl (hb hby at_148) rfl k) ?_
              refine go (T' := T82) (f' := (mkF m 161 #[.val (.int p0), .val (.int p1), .val (.int p2), .val (.int p3), .val (.int p4), .val (.int w5), .val (.int w6), .val (.int z1), .val (.int z2), .val (.int (2 : Int32)), .val (.int (2 : Int32)), .val (.ref r64), .val (.ref r65), .val (.int w13), .val (.int z66), .val (.int (3 : Int32)), .val (.ref b81), .unset, .unset] [])) (by intro t k; exact XS.ifYes X82.here hx rfl (pc0 := 150) (pc' := 161) rfl (hb hby at_150) rfl ((if0 _ _).trans (feq (by decide : ¬ ((3 : Int32) = (0 : Int32)))).2) (by decide) (by decide) k) ?_
              refine go (T' := T82) (f' := (mkF m 163 #[.val (.int p0), .val (.int p1), .val (.int p2), .val (.int p3), .val (.int p4), .val (.int w5), .val (.int w6), .val (.int z1), .val (.int z2), .val (.int (2 : Int32)), .val (.int (2 : Int32)), .val (.ref r64), .val (.ref r65), .val (.int w13), .val (.int z66), .val (.int (3 : Int32)), .val (.ref b81), .unset, .unset] [(.int (3 : Int32))])) (by intro t k; exact XS.iload X82.here hx rfl (hb hby at_161) rfl k) ?_
              refine go (T' := T82) (f' := (mkF m 164 #[.val (.int p0), .val (.int p1), .val (.int p2), .val (.int p3), .val (.int p4), .val (.int w5), .val (.int w6), .val (.int z1), .val (.int z2), .val (.int (2 : Int32)), .val (.int (2 : Int32)), .val (.ref r64), .val (.ref r65), .val (.int w13), .val (.int z66), .val (.int (3 : Int32)), .val (.ref b81), .unset, .unset] [(.int (2 : Int32)), (.int (3 : Int32))])) (by intro t k; exact XS.iconst X82.here hx rfl (hb hby at_163) k) ?_
              refine go (T' := T82) (f' := (mkF m 183 #[.val (.int p0), .val (.int p1), .val (.int p2), .val (.int p3), .val (.int p4), .val (.int w5), .val (.int w6), .val (.int z1), .val (.int z2), .val (.int (2 : Int32)), .val (.int (2 : Int32)), .val (.ref r64), .val (.ref r65), .val (.int w13), .val (.int z66), .val (.int (3 : Int32)), .val (.ref b81), .unset, .unset] [])) (by intro t k; exact XS.icmpYes X82.here hx rfl (pc0 := 164) (pc' := 183) rfl (hb hby at_164) rfl (feq (by decide : ¬ ((3 : Int32) = (2 : Int32)))).2 (by decide) (by decide) k) ?_
              refine go (T' := T82) (f' := (mkF m 185 #[.val (.int p0), .val (.int p1), .val (.int p2), .val (.int p3), .val (.int p4), .val (.int w5), .val (.int w6), .val (.int z1), .val (.int z2), .val (.int (2 : Int32)), .val (.int (2 : Int32)), .val (.ref r64), .val (.ref r65), .val (.int w13), .val (.int z66), .val (.int (3 : Int32)), .val (.ref b81), .unset, .unset] [(.int (3 : Int32))])) (by intro t k; exact XS.iload X82.here hx rfl (hb hby at_183) rfl k) ?_
              refine go (T' := T82) (f' := (mkF m 186 #[.val (.int p0), .val (.int p1), .val (.int p2), .val (.int p3), .val (.int p4), .val (.int w5), .val (.int w6), .val (.int z1), .val (.int z2), .val (.int (2 : Int32)), .val (.int (2 : Int32)), .val (.ref r64), .val (.ref r65), .val (.int w13), .val (.int z66), .val (.int (3 : Int32)), .val (.ref b81), .unset, .unset] [(.int (3 : Int32)), (.int (3 : Int32))])) (by intro t k; exact XS.iconst X82.here hx rfl (hb hby at_185) k) ?_
              refine go (T' := T82) (f' := (mkF m 189 #[.val (.int p0), .val (.int p1), .val (.int p2), .val (.int p3), .val (.int p4), .val (.int w5), .val (.int w6), .val (.int z1), .val (.int z2), .val (.int (2 : Int32)), .val (.int (2 : Int32)), .val (.ref r64), .val (.ref r65), .val (.int w13), .val (.int z66), .val (.int (3 : Int32)), .val (.ref b81), .unset, .unset] [])) (by intro t k; exact XS.icmpNo X82.here hx rfl (hb hby at_186) rfl (teq (rfl : (3 : Int32) = (3 : Int32))).2 k) ?_
              refine go (T' := T82) (f' := (mkF m 191 #[.val (.int p0), .val (.int p1), .val (.int p2), .val (.int p3), .val (.int p4), .val (.int w5), .val (.int w6), .val (.int z1), .val (.int z2), .val (.int (2 : Int32)), .val (.int (2 : Int32)), .val (.ref r64), .val (.ref r65), .val (.int w13), .val (.int z66), .val (.int (3 : Int32)), .val (.ref b81), .unset, .unset] [(.ref b81)])) (by intro t k; exact XS.aload X82.here hx rfl (hb hby at_189) rfl rfl k) ?_
              refine go (T' := T82) (f' := (mkF m 192 #[.val (.int p0), .val (.int p1), .val (.int p2), .val (.int p3), .val (.int p4), .val (.int w5), .val (.int w6), .val (.int z1), .val (.int z2), .val (.int (2 : Int32)), .val (.int (2 : Int32)), .val (.ref r64), .val (.ref r65), .val (.int w13), .val (.int z66), .val (.int (3 : Int32)), .val (.ref b81), .unset, .unset] [.null, (.ref b81)])) (by intro t k; exact XS.aconstNull X82.here hx rfl (hb hby at_191) k) ?_
              obtain ⟨cq83, kq83, q83a, q83b, q83c⟩ := isOf hZ rfl E82_b81
              obtain ⟨_, _, ⟨T83, Lz83, kz83, nz83⟩, -, X83, ⟨Lc83, hQ83, lz83, yz83, zz83⟩, st83⟩ := X82.virtualBack hx (y := (⟨"com/example/backchain/backchain/model/Predicate", "equals", "(Ljava/lang/Object;)Z"⟩ : MethodName)) (z := (⟨"com/example/backchain/backchain/model/Predicate", "equals", "(Ljava/lang/Object;)Z"⟩ : MethodName)) hown (mvT hZ (hw _ (List.mem_of_getElem? (i := 51) rfl))) (mvT hZ (hw _ (List.mem_of_getElem? (i := 52) rfl))) (notFace_of_selects (args := #[]) (mvT hZ (hw _ (List.mem_of_getElem? (i := 54) rfl)))) (mvT hZ (hw _ (List.mem_of_getElem? (i := 54) rfl))) (mvT hZ (hw _ (List.mem_of_getElem? (i := 53) rfl))) (by decide) (backOf (W := 0) (rm10z l Z aw hw [] b81  T82.heap n0 Z82 ) hZ (hw _ (List.mem_of_getElem? (i := 55) rfl)) (hw _ (List.mem_of_getElem? (i := 37) rfl)) (by decide) (by decide)) q83a q83c (g := (mkF m 192 #[.val (.int p0), .val (.int p1), .val (.int p2), .val (.int p3), .val (.int p4), .val (.int w5), .val (.int w6), .val (.int z1), .val (.int z2), .val (.int (2 : Int32)), .val (.int (2 : Int32)), .val (.ref r64), .val (.ref r65), .val (.int w13), .val (.int z66), .val (.int (3 : Int32)), .val (.ref b81), .unset, .unset] [.null, (.ref b81)])) rfl (by rw [hml]; rfl) (Steps.refl _) (argsL := [.null]) (rest := []) (lenOf pd_28Ljava2flang2fObject3b29Z rfl) rfl (by show 2 * 0 + _ ≤ _; exact Nat.le_of_eq rfl) (hb hby at_192) (fun _ _ => ⟨rfl, rfl, (by decide : 7 + 0 ≤ _), (by decide : 18 + 0 ≤ _)⟩)
              dsimp only [Pt.U, Pt.locs, Pt.cells, Pt.slots] at X83 lz83 yz83 zz83 st83 hQ83
              subst lz83 yz83 zz83
              obtain ⟨rfl, N83q, e83⟩ := hQ83
              have N83 := Fr.app N82 N83q
              refine go (fun _ k => st83.trans k) ?_
              show Run _ _ _ _ _ _ _ T83 (mkF m 195 #[.val (.int p0), .val (.int p1), .val (.int p2), .val (.int p3), .val (.int p4), .val (.int w5), .val (.int w6), .val (.int z1), .val (.int z2), .val (.int (2 : Int32)), .val (.int (2 : Int32)), .val (.ref r64), .val (.ref r65), .val (.int w13), .val (.int z66), .val (.int (3 : Int32)), .val (.ref b81), .unset, .unset] [(.int (0 : Int32))])
              refine go (T' := T83) (f' := (mkF m 198 #[.val (.int p0), .val (.int p1), .val (.int p2), .val (.int p3), .val (.int p4), .val (.int w5), .val (.int w6), .val (.int z1), .val (.int z2), .val (.int (2 : Int32)), .val (.int (2 : Int32)), .val (.ref r64), .val (.ref r65), .val (.int w13), .val (.int z66), .val (.int (3 : Int32)), .val (.ref b81), .unset, .unset] [])) (by intro t k; exact XS.ifNo X83.here hx rfl (hb hby at_195) rfl ((if0 _ _).trans (teq (rfl : (0 : Int32) = (0 : Int32))).2) k) ?_
              refine go (T' := T83) (f' := (mkF m 199 #[.val (.int p0), .val (.int p1), .val (.int p2), .val (.int p3), .val (.int p4), .val (.int w5), .val (.int w6), .val (.int z1), .val (.int z2), .val (.int (2 : Int32)), .val (.int (2 : Int32)), .val (.ref r64), .val (.ref r65), .val (.int w13), .val (.int z66), .val (.int (3 : Int32)), .val (.ref b81), .unset, .unset] [(.int (1 : Int32))])) (by intro t k; exact XS.iconst X83.here hx rfl (hb hby at_198) k) ?_
              refine go (T' := T83) (f' := (mkF m 203 #[.val (.int p0), .val (.int p1), .val (.int p2), .val (.int p3), .val (.int p4), .val (.int w5), .val (.int w6), .val (.int z1), .val (.int z2), .val (.int (2 : Int32)), .val (.int (2 : Int32)), .val (.ref r64), .val (.ref r65), .val (.int w13), .val (.int z66), .val (.int (3 : Int32)), .val (.ref b81), .unset, .unset] [(.int (1 : Int32))])) (by intro t k; exact XS.goto X83.here hx rfl (pc0 := 199) (pc' := 203) rfl (hb hby at_199) (by decide) (by decide) k) ?_
              refine retZ X83 hx (t := .boolean) Bd.returns (by simp) (hb hby at_203) hlk (by decide) (by decide) ?_
              show Q0 Z p0 p1 p2 p3 p4 cs h0 n0 _ T83.heap _
              rw [e83]
              have hv' : (nar .boolean (1 : Int32)) = (1 : Int32) := by
                rfl
              have hv : (some (.int (nar .boolean (1 : Int32))) : Option Value) = some (.int (1 : Int32)) := congrArg (fun z => (some (.int z) : Option Value)) hv'
              exact ⟨hv, N83⟩
          show Run _ _ _ _ _ _ _ T65 (mkF m 113 #[.val (.int p0), .val (.int p1), .val (.int p2), .val (.int p3), .val (.int p4), .val (.int w5), .val (.int w6), .val (.int z1), .val (.int z2), .val (.int (2 : Int32)), .val (.int (2 : Int32)), .val (.ref r64), .val (.ref r65), .val (.int w13), .unset, .unset, .unset, .unset, .unset] [(.int (p4 &&& (16 : Int32)))])
          by_cases hc113 : (p4 &&& (16 : Int32)) = (0 : Int32)
          · refine go (T' := T65) (f' := (mkF m 123 #[.val (.int p0), .val (.int p1), .val (.int p2), .val (.int p3), .val (.int p4), .val (.int w5), .val (.int w6), .val (.int z1), .val (.int z2), .val (.int (2 : Int32)), .val (.int (2 : Int32)), .val (.ref r64), .val (.ref r65), .val (.int w13), .unset, .unset, .unset, .unset, .unset] [])) (by intro t k; exact XS.ifYes X65.here hx rfl (pc0 := 113) (pc' := 123) rfl (hb hby at_113) rfl ((if0 _ _).trans (teq hc113).1) (by decide) (by decide) k) ?_
            refine go (T' := T65) (f' := (mkF m 125 #[.val (.int p0), .val (.int p1), .val (.int p2), .val (.int p3), .val (.int p4), .val (.int w5), .val (.int w6), .val (.int z1), .val (.int z2), .val (.int (2 : Int32)), .val (.int (2 : Int32)), .val (.ref r64), .val (.ref r65), .val (.int w13), .unset, .unset, .unset, .unset, .unset] [(.int w13)])) (by intro t k; exact XS.iload X65.here hx rfl (hb hby at_123) rfl k) ?_
            have ez66 : z66 = w13 := (hz66).trans (if_pos hc113)
            subst ez66
            exact J113
          · refine go (T' := T65) (f' := (mkF m 116 #[.val (.int p0), .val (.int p1), .val (.int p2), .val (.int p3), .val (.int p4), .val (.int w5), .val (.int w6), .val (.int z1), .val (.int z2), .val (.int (2 : Int32)), .val (.int (2 : Int32)), .val (.ref r64), .val (.ref r65), .val (.int w13), .unset, .unset, .unset, .unset, .unset] [])) (by intro t k; exact XS.ifNo X65.here hx rfl (hb hby at_113) rfl ((if0 _ _).trans (feq hc113).1) k) ?_
            refine go (T' := T65) (f' := (mkF m 117 #[.val (.int p0), .val (.int p1), .val (.int p2), .val (.int p3), .val (.int p4), .val (.int w5), .val (.int w6), .val (.int z1), .val (.int z2), .val (.int (2 : Int32)), .val (.int (2 : Int32)), .val (.ref r64), .val (.ref r65), .val (.int w13), .unset, .unset, .unset, .unset, .unset] [(.int p3)])) (by intro t k; exact XS.iloadN X65.here hx rfl (hb hby at_116) rfl k) ?_
            refine go (T' := T65) (f' := (mkF m 119 #[.val (.int p0), .val (.int p1), .val (.int p2), .val (.int p3), .val (.int p4), .val (.int w5), .val (.int w6), .val (.int z1), .val (.int z2), .val (.int (2 : Int32)), .val (.int (2 : Int32)), .val (.ref r64), .val (.ref r65), .val (.int w13), .unset, .unset, .unset, .unset, .unset] [(.int (2147483647 : Int32)), (.int p3)])) (by intro t k; exact X65.ldcInt hx hown (mvT hZ (hw _ (List.mem_of_getElem? (i := 34) rfl))) (g := (mkF m 117 #[.val (.int p0), .val (.int p1), .val (.int p2), .val (.int p3), .val (.int p4), .val (.int w5), .val (.int w6), .val (.int z1), .val (.int z2), .val (.int (2 : Int32)), .val (.int (2 : Int32)), .val (.ref r64), .val (.ref r65), .val (.int w13), .unset, .unset, .unset, .unset, .unset] [(.int p3)])) rfl (hb hby at_117) _ k) ?_
            refine go (T' := T65) (f' := (mkF m 120 #[.val (.int p0), .val (.int p1), .val (.int p2), .val (.int p3), .val (.int p4), .val (.int w5), .val (.int w6), .val (.int z1), .val (.int z2), .val (.int (2 : Int32)), .val (.int (2 : Int32)), .val (.ref r64), .val (.ref r65), .val (.int w13), .unset, .unset, .unset, .unset, .unset] [(.int (p3 &&& (2147483647 : Int32)))])) (by intro t k; exact XS.iand X65.here hx rfl (hb hby at_119) rfl k) ?_
            refine go (T' := T65) (f' := (mkF m 125 #[.val (.int p0), .val (.int p1), .val (.int p2), .val (.int p3), .val (.int p4), .val (.int w5), .val (.int w6), .val (.int z1), .val (.int z2), .val (.int (2 : Int32)), .val (.int (2 : Int32)), .val (.ref r64), .val (.ref r65), .val (.int w13), .unset, .unset, .unset, .unset, .unset] [(.int (p3 &&& (2147483647 : Int32)))])) (by intro t k; exact XS.goto X65.here hx rfl (pc0 := 120) (pc' := 125) rfl (hb hby at_120) (by decide) (by decide) k) ?_
            have ez66 : z66 = (p3 &&& (2147483647 : Int32)) := (hz66).trans (if_neg hc113)
            subst ez66
            exact J113
    show Run _ _ _ _ _ _ _ s₁ (mkF m 43 #[.val (.int p0), .val (.int p1), .val (.int p2), .val (.int p3), .val (.int p4), .val (.int w5), .val (.int w6), .val (.int z1), .unset, .unset, .unset, .unset, .unset, .unset, .unset, .unset, .unset, .unset, .unset] [(.int (p4 &&& (4 : Int32)))])
    by_cases hc43 : (p4 &&& (4 : Int32)) = (0 : Int32)
    · refine go (T' := s₁) (f' := (mkF m 58 #[.val (.int p0), .val (.int p1), .val (.int p2), .val (.int p3), .val (.int p4), .val (.int w5), .val (.int w6), .val (.int z1), .unset, .unset, .unset, .unset, .unset, .unset, .unset, .unset, .unset, .unset, .unset] [])) (by intro t k; exact XS.ifYes X0.here hx rfl (pc0 := 43) (pc' := 58) rfl (hb hby at_43) rfl ((if0 _ _).trans (teq hc43).1) (by decide) (by decide) k) ?_
      refine go (T' := s₁) (f' := (mkF m 60 #[.val (.int p0), .val (.int p1), .val (.int p2), .val (.int p3), .val (.int p4), .val (.int w5), .val (.int w6), .val (.int z1), .unset, .unset, .unset, .unset, .unset, .unset, .unset, .unset, .unset, .unset, .unset] [(.int w6)])) (by intro t k; exact XS.iload X0.here hx rfl (hb hby at_58) rfl k) ?_
      have ez2 : z2 = w6 := (hz2).trans (if_pos hc43)
      subst ez2
      exact J43
    · refine go (T' := s₁) (f' := (mkF m 46 #[.val (.int p0), .val (.int p1), .val (.int p2), .val (.int p3), .val (.int p4), .val (.int w5), .val (.int w6), .val (.int z1), .unset, .unset, .unset, .unset, .unset, .unset, .unset, .unset, .unset, .unset, .unset] [])) (by intro t k; exact XS.ifNo X0.here hx rfl (hb hby at_43) rfl ((if0 _ _).trans (feq hc43).1) k) ?_
      refine go (T' := s₁) (f' := (mkF m 47 #[.val (.int p0), .val (.int p1), .val (.int p2), .val (.int p3), .val (.int p4), .val (.int w5), .val (.int w6), .val (.int z1), .unset, .unset, .unset, .unset, .unset, .unset, .unset, .unset, .unset, .unset, .unset] [(.int p1)])) (by intro t k; exact XS.iloadN X0.here hx rfl (hb hby at_46) rfl k) ?_
      refine go (T' := s₁) (f' := (mkF m 49 #[.val (.int p0), .val (.int p1), .val (.int p2), .val (.int p3), .val (.int p4), .val (.int w5), .val (.int w6), .val (.int z1), .unset, .unset, .unset, .unset, .unset, .unset, .unset, .unset, .unset, .unset, .unset] [(.int (8 : Int32)), (.int p1)])) (by intro t k; exact XS.bipush X0.here hx rfl (hb hby at_47) k) ?_
      refine go (T' := s₁) (f' := (mkF m 50 #[.val (.int p0), .val (.int p1), .val (.int p2), .val (.int p3), .val (.int p4), .val (.int w5), .val (.int w6), .val (.int z1), .unset, .unset, .unset, .unset, .unset, .unset, .unset, .unset, .unset, .unset, .unset] [(.int (((p1).toUInt32 >>> ((8 : Int32) &&& 31).toUInt32).toInt32))])) (by intro t k; exact XS.iushr X0.here hx rfl (hb hby at_49) rfl k) ?_
      refine go (T' := s₁) (f' := (mkF m 53 #[.val (.int p0), .val (.int p1), .val (.int p2), .val (.int p3), .val (.int p4), .val (.int w5), .val (.int w6), .val (.int z1), .unset, .unset, .unset, .unset, .unset, .unset, .unset, .unset, .unset, .unset, .unset] [(.int (255 : Int32)), (.int (((p1).toUInt32 >>> ((8 : Int32) &&& 31).toUInt32).toInt32))])) (by intro t k; exact XS.sipush X0.here hx rfl (hb hby at_50) k) ?_
      refine go (T' := s₁) (f' := (mkF m 54 #[.val (.int p0), .val (.int p1), .val (.int p2), .val (.int p3), .val (.int p4), .val (.int w5), .val (.int w6), .val (.int z1), .unset, .unset, .unset, .unset, .unset, .unset, .unset, .unset, .unset, .unset, .unset] [(.int ((((p1).toUInt32 >>> ((8 : Int32) &&& 31).toUInt32).toInt32) &&& (255 : Int32)))])) (by intro t k; exact XS.iand X0.here hx rfl (hb hby at_53) rfl k) ?_
      refine go (T' := s₁) (f' := (mkF m 55 #[.val (.int p0), .val (.int p1), .val (.int p2), .val (.int p3), .val (.int p4), .val (.int w5), .val (.int w6), .val (.int z1), .unset, .unset, .unset, .unset, .unset, .unset, .unset, .unset, .unset, .unset, .unset] [(.int ((((((p1).toUInt32 >>> ((8 : Int32) &&& 31).toUInt32).toInt32) &&& (255 : Int32))).toUInt32.toUInt16.toUInt32.toInt32))])) (by intro t k; exact XS.i2c X0.here hx rfl (hb hby at_54) rfl k) ?_
      refine go (T' := s₁) (f' := (mkF m 60 #[.val (.int p0), .val (.int p1), .val (.int p2), .val (.int p3), .val (.int p4), .val (.int w5), .val (.int w6), .val (.int z1), .unset, .unset, .unset, .unset, .unset, .unset, .unset, .unset, .unset, .unset, .unset] [(.int ((((((p1).toUInt32 >>> ((8 : Int32) &&& 31).toUInt32).toInt32) &&& (255 : Int32))).toUInt32.toUInt16.toUInt32.toInt32))])) (by intro t k; exact XS.goto X0.here hx rfl (pc0 := 55) (pc' := 60) rfl (hb hby at_55) (by decide) (by decide) k) ?_
      have ez2 : z2 = ((((((p1).toUInt32 >>> ((8 : Int32) &&& 31).toUInt32).toInt32) &&& (255 : Int32))).toUInt32.toUInt16.toUInt32.toInt32) := (hz2).trans (if_neg hc43)
      subst ez2
      exact J43
  show Run _ _ _ _ _ _ _ s₁ (mkF m 23 #[.val (.int p0), .val (.int p1), .val (.int p2), .val (.int p3), .val (.int p4), .val (.int w5), .val (.int w6), .unset, .unset, .unset, .unset, .unset, .unset, .unset, .unset, .unset, .unset, .unset, .unset] [(.int (p4 &&& (2 : Int32)))])
  by_cases hc23 : (p4 &&& (2 : Int32)) = (0 : Int32)
  · refine go (T' := s₁) (f' := (mkF m 35 #[.val (.int p0), .val (.int p1), .val (.int p2), .val (.int p3), .val (.int p4), .val (.int w5), .val (.int w6), .unset, .unset, .unset, .unset, .unset, .unset, .unset, .unset, .unset, .unset, .unset, .unset] [])) (by intro t k; exact XS.ifYes X0.here hx rfl (pc0 := 23) (pc' := 35) rfl (hb hby at_23) rfl ((if0 _ _).trans (teq hc23).1) (by decide) (by decide) k) ?_
    refine go (T' := s₁) (f' := (mkF m 37 #[.val (.int p0), .val (.int p1), .val (.int p2), .val (.int p3), .val (.int p4), .val (.int w5), .val (.int w6), .unset, .unset, .unset, .unset, .unset, .unset, .unset, .unset, .unset, .unset, .unset, .unset] [(.int w5)])) (by intro t k; exact XS.iload X0.here hx rfl (hb hby at_35) rfl k) ?_
    have ez1 : z1 = w5 := (hz1).trans (if_pos hc23)
    subst ez1
    exact J23
  · refine go (T' := s₁) (f' := (mkF m 26 #[.val (.int p0), .val (.int p1), .val (.int p2), .val (.int p3), .val (.int p4), .val (.int w5), .val (.int w6), .unset, .unset, .unset, .unset, .unset, .unset, .unset, .unset, .unset, .unset, .unset, .unset] [])) (by intro t k; exact XS.ifNo X0.here hx rfl (hb hby at_23) rfl ((if0 _ _).trans (feq hc23).1) k) ?_
    refine go (T' := s₁) (f' := (mkF m 27 #[.val (.int p0), .val (.int p1), .val (.int p2), .val (.int p3), .val (.int p4), .val (.int w5), .val (.int w6), .unset, .unset, .unset, .unset, .unset, .unset, .unset, .unset, .unset, .unset, .unset, .unset] [(.int p1)])) (by intro t k; exact XS.iloadN X0.here hx rfl (hb hby at_26) rfl k) ?_
    refine go (T' := s₁) (f' := (mkF m 30 #[.val (.int p0), .val (.int p1), .val (.int p2), .val (.int p3), .val (.int p4), .val (.int w5), .val (.int w6), .unset, .unset, .unset, .unset, .unset, .unset, .unset, .unset, .unset, .unset, .unset, .unset] [(.int (255 : Int32)), (.int p1)])) (by intro t k; exact XS.sipush X0.here hx rfl (hb hby at_27) k) ?_
    refine go (T' := s₁) (f' := (mkF m 31 #[.val (.int p0), .val (.int p1), .val (.int p2), .val (.int p3), .val (.int p4), .val (.int w5), .val (.int w6), .unset, .unset, .unset, .unset, .unset, .unset, .unset, .unset, .unset, .unset, .unset, .unset] [(.int (p1 &&& (255 : Int32)))])) (by intro t k; exact XS.iand X0.here hx rfl (hb hby at_30) rfl k) ?_
    refine go (T' := s₁) (f' := (mkF m 32 #[.val (.int p0), .val (.int p1), .val (.int p2), .val (.int p3), .val (.int p4), .val (.int w5), .val (.int w6), .unset, .unset, .unset, .unset, .unset, .unset, .unset, .unset, .unset, .unset, .unset, .unset] [(.int (((p1 &&& (255 : Int32))).toUInt32.toUInt16.toUInt32.toInt32))])) (by intro t k; exact XS.i2c X0.here hx rfl (hb hby at_31) rfl k) ?_
    refine go (T' := s₁) (f' := (mkF m 37 #[.val (.int p0), .val (.int p1), .val (.int p2), .val (.int p3), .val (.int p4), .val (.int w5), .val (.int w6), .unset, .unset, .unset, .unset, .unset, .unset, .unset, .unset, .unset, .unset, .unset, .unset] [(.int (((p1 &&& (255 : Int32))).toUInt32.toUInt16.toUInt32.toInt32))])) (by intro t k; exact XS.goto X0.here hx rfl (pc0 := 32) (pc' := 37) rfl (hb hby at_32) (by decide) (by decide) k) ?_
    have ez1 : z1 = (((p1 &&& (255 : Int32))).toUInt32.toUInt16.toUInt32.toInt32) := (hz1).trans (if_neg hc23)
    subst ez1
    exact J23
theorem own_ne0 {args : Array Value} {s : State} {t : Term} {x : Int32} (e : t.eval args s none [] s = some (.int x)) (h : (Jvm.Cond.not (Jvm.Cond.eq t (Jvm.Term.int (0 : Int32)))).value args s none s [] = some true) : ¬ (x = (0 : Int32)) := fun q => by
  have := not_v h
  simp [Cond.value, Term.eval, e, q] at this
set_option maxRecDepth 65536 in
set_option maxHeartbeats 40000000 in
theorem comes_1 {Post : Tables → Env → Array Value → State → Outcome → State → Prop} (hpost : ∀ tb e args s v u, (limb_1_1.after args s (.returned v) u = true ∧ limb_1_2.after args s (.returned v) u = true ∧ True) → FrameEnd s (.returned v) u (Jvm.fieldLocs frame_1_writes args s ++ Jvm.arrayLocs frame_1_arrays args s ++ Jvm.staticLocs frame_1_statics s) 24 128 → Post tb e args s (.returned v) u) :
    ArmFor flags0 classFile x code maxLocals ret World_1 tables_1 room_1 Calls_1 rest_1 Pre_1 Post := by
  intro l hfl _ _ p e ha hc hk s m args below hf hA hF happ hP
  obtain ⟨hcalls, hrest, hpre⟩ := hP
  obtain ⟨-, -, -, hnamed, -, -, -, hat⟩ := (Spec.applies_iff hf).mp happ
  obtain ⟨hg, hn⟩ := and_e (Cond.before_iff.mp (show (Jvm.Cond.and given_1 narrow_1).before args s = true from hpre))
  obtain ⟨g1, g2⟩ := and_e hg
  obtain ⟨g3, g4⟩ := and_e g2
  obtain ⟨g5, g6⟩ := and_e g4
  obtain ⟨g7, g8⟩ := and_e g6
  obtain ⟨g9, g10⟩ := and_e g8
  obtain ⟨w0, w1, w2, w3, w4, rfl⟩ : ∃ w0 w1 w2 w3 w4 : Value, args = #[w0, w1, w2, w3, w4] := by
    have hs : args.size = 5 := by simpa [Cond.value, given_1] using g1
    obtain ⟨L⟩ := args
    match L, hs with
    | [w0, w1, w2, w3, w4], _ => exact ⟨w0, w1, w2, w3, w4, rfl⟩
  have hw := fun d (hd : d ∈ tables_1) => atoms_spec (ws := Jvm.Cond.code x code maxLocals ret :: tables_1) hat d (List.mem_cons_of_mem _ hd)
  have hfit : Fit s := fun {y c} hc i hi => by
    obtain ⟨ha, rfl⟩ := Array.getElem?_eq_some_iff.mp hc
    have q := List.all_eq_true.mp ((Array.all_eq_true_iff_forall_mem.mp hF) _ (Array.getElem_mem ha)) i (List.mem_range.mpr hi)
    simpa [Array.getElem?_eq_getElem hi] using q
  obtain ⟨hsets, hown0⟩ := atoms_of _ (rest_1_c_eq ▸ (show rest_1_c.before _ s = true from hrest))
  have hr0 := Cond.before_iff.mp hown0
  obtain ⟨i0, ei0⟩ := is_v g3
  obtain rfl : w0 = (.int i0) := Option.some.inj ei0
  obtain ⟨i1, ei1⟩ := is_v g5
  obtain rfl : w1 = (.int i1) := Option.some.inj ei1
  obtain ⟨i2, ei2⟩ := is_v g7
  obtain rfl : w2 = (.int i2) := Option.some.inj ei2
  obtain ⟨i3, ei3⟩ := is_v g9
  obtain rfl : w3 = (.int i3) := Option.some.inj ei3
  obtain ⟨i4, ei4⟩ := is_v g10
  obtain rfl : w4 = (.int i4) := Option.some.inj ei4
  obtain ⟨cs, ecs⟩ := is_v (Cond.before_iff.mp (hsets _ (List.mem_of_getElem? (i := 1) rfl)))
  have S_cs := Sta.start ecs (Or.inl (hsets _ (List.mem_of_getElem? (i := 0) rfl)))
  have hcs : ¬ (cs = (0 : Int32)) := own_ne0 ecs (Cond.before_iff.mp (hsets _ (List.mem_of_getElem? (i := 2) rfl)))
  obtain ⟨n, o, h1, h2, h3, _, L, rfl, ⟨rfl, N⟩, hq⟩ := rm0 l s _ hw tables_1 i0 i1 i2 i3 i4 cs s.heap s.heap.size (Nat.le_refl _) (Old.start s) S_cs hcs p e ha hc hk s m _ below hf ((Spec.applies_iff_loose hf).mp happ).1 ⟨rfl, State.Warmed39.refl s, rfl⟩ trivial
  refine ⟨n, _, h1, h2, h3, hpost _ _ _ _ _ _ ⟨Cond.after_iff.mpr rfl, Cond.after_iff.mpr (eq_i res_at (Term.int_eval (1)) rfl), trivial⟩ ⟨hq.1, hq.2.1, (hq.2.2.sift fun y hy => Or.inr (N y hy)).mono (by decide) (by decide)⟩⟩
theorem main_1_1 : Claimed_1_1 := comes_1 fun _ _ _ _ _ _ h hF => ⟨h.1, hF⟩
theorem main_1_2 : Claimed_1_2 := comes_1 fun _ _ _ _ _ _ h hF => ⟨h.2.1, hF⟩
end Jvm.Pilot.@@N@@
namespace Jvm.Pilot.@@N@@
open Jvm Jvm.ClassFile Sem Op Lib Jvm.Free Jvm.Stand Jvm.Pilot.@@N@@.Jvm.D
/-! MADE BY PROGRAM (witnessworld.py) out of the Statement's table words and the real class files: 20 classes; the members and pool entries that the words name. The judged class is class 1, her method 1. -/
namespace start1
open Jvm.ClassFile
def u (s : String) : CpInfo := .utf8 (stringToUtf16 s)
/-- a pool by its gaps: so many unusable entries, then the entry; so many at the end -/
def gap : Nat → List CpInfo → List CpInfo
  | 0, r => r
  | n + 1, r => .unusable :: gap n r
def poolList (es : List (Nat × CpInfo)) (last : Nat) : List CpInfo := es.foldr (fun e r => gap e.1 (e.2 :: r)) (gap last [])
def pool (es : List (Nat × CpInfo)) (last : Nat) : Array CpInfo := ⟨poolList es last⟩
def fileOf (pool : Array CpInfo) (this : Nat) (attrs : Array Attribute := #[]) (ms : Array MethodInfo := #[]) (fl : Nat := 33) (sup : Nat := 0) (ifs : Array Nat := #[]) (fds : Array FieldInfo := #[]) : ClassFile where
  minorVersion := 0
  majorVersion := 65
  constantPool := pool
  accessFlags := fl
  thisClass := this
  superClass := sup
  interfaces := ifs
  fields := fds
  methods := ms
  attributes := attrs
def plain (name : String) (sup : Option ClassId) : Class where
  name := name
  kind := .ordinary
  loader := none
  accessFlags := 33
  super := sup
  interfaces := #[]
  cf := none
  fields := #[]
  methods := #[]
  instanceTypes := #[]
  staticTypes := #[]
  resolved := #[]
  callSites := []
  init := .initialized
  statics := none
  mirror := none

def pool0 : Array CpInfo := pool [(5, u "<init>"), (0, u "()V"), (1, .class_ 10), (1, u "java/lang/Object")] 113

def k0c0 : Code := { maxStack := 0, maxLocals := 1, code := object_method_1_code, exceptionTable := #[], attributes := #[] }
def k0m0 : Method := { name := "<init>", desc := "()V", sig := { parameters := [], returnType := none }, accessFlags := 1, code := some k0c0 }
/-- java/lang/Object -/
def k0 : Class := { plain "java/lang/Object" none with
  accessFlags := 33
  interfaces := #[]
  cf := some (fileOf pool0 8 #[] #[{ accessFlags := 1, nameIndex := 5, descriptorIndex := 6, attributes := #[] }] 33 0 #[] #[])
  fields := #[]
  methods := #[k0m0]
  instanceTypes := #[]
  staticTypes := #[]
  resolved := Array.replicate 124 none
  statics := none }

def pool1 : Array CpInfo := pool [(2, .class_ 4), (1, u "java/lang/Object"), (0, u "<init>"), (0, u "()V"), (0, .methodref 8 9), (0, .class_ 10), (0, .nameAndType 11 12), (0, u "com/example/backchain/backchain/model/PredicateEqualsPinLaw"), (0, u "makeName"), (0, u "(ICC)Ljava/lang/String;"), (0, .integer 2147483647), (0, .class_ 15), (0, u "com/example/backchain/backchain/model/Predicate"), (0, .methodref 14 17), (0, .nameAndType 5 18), (0, u "(Ljava/lang/String;I)V"), (0, .methodref 14 20), (0, .nameAndType 21 22), (0, u "equals"), (0, u "(Ljava/lang/Object;)Z"), (0, .class_ 24), (0, u "java/lang/String"), (0, .methodref 23 26), (0, .nameAndType 5 27), (0, u "([C)V"), (2, u "law"), (0, u "(IIIII)Z")] 3

def k1m0 : Method := { name := "<init>", desc := "()V", sig := { parameters := [], returnType := none }, accessFlags := 1, code := none }
def k1c1 : Code := { maxStack := 4, maxLocals := 19, code := code, exceptionTable := #[], attributes := #[] }
def k1m1 : Method := { name := "law", desc := "(IIIII)Z", sig := { parameters := [.int, .int, .int, .int, .int], returnType := some .boolean }, accessFlags := 9, code := some k1c1 }
def k1c2 : Code := { maxStack := 3, maxLocals := 4, code := method_3_code, exceptionTable := #[], attributes := #[] }
def k1m2 : Method := { name := "makeName", desc := "(ICC)Ljava/lang/String;", sig := { parameters := [.int, .char, .char], returnType := some (.object "java/lang/String") }, accessFlags := 10, code := some k1c2 }
/-- com/example/backchain/backchain/model/PredicateEqualsPinLaw -/
def k1 : Class := { plain "com/example/backchain/backchain/model/PredicateEqualsPinLaw" (some 0) with
  accessFlags := 49
  interfaces := #[]
  cf := some (fileOf pool1 8 #[] #[{ accessFlags := 1, nameIndex := 5, descriptorIndex := 6, attributes := #[] }, { accessFlags := 9, nameIndex := 30, descriptorIndex := 31, attributes := #[] }, { accessFlags := 10, nameIndex := 11, descriptorIndex := 12, attributes := #[] }] 49 2 #[] #[])
  fields := #[]
  methods := #[k1m0, k1m1, k1m2]
  instanceTypes := #[]
  staticTypes := #[]
  resolved := Array.replicate 35 none
  statics := none }

def pool2 : Array CpInfo := pool [(1, .class_ 2), (0, u "java/io/Serializable"), (0, .class_ 4), (0, u "java/lang/Object")] 2

/-- java/io/Serializable -/
def k2 : Class := { plain "java/io/Serializable" (some 0) with
  accessFlags := 1537
  interfaces := #[]
  cf := some (fileOf pool2 1 #[] #[] 1537 3 #[] #[])
  fields := #[]
  methods := #[]
  instanceTypes := #[]
  staticTypes := #[]
  resolved := Array.replicate 7 none
  statics := none }

def pool3 : Array CpInfo := pool [(1, .class_ 2), (0, u "java/lang/Comparable"), (0, .class_ 4), (0, u "java/lang/Object")] 7

/-- java/lang/Comparable -/
def k3 : Class := { plain "java/lang/Comparable" (some 0) with
  accessFlags := 1537
  interfaces := #[]
  cf := some (fileOf pool3 1 #[] #[] 1537 3 #[] #[])
  fields := #[]
  methods := #[]
  instanceTypes := #[]
  staticTypes := #[]
  resolved := Array.replicate 12 none
  statics := none }

def pool4 : Array CpInfo := pool [(2, .class_ 4), (1, u "java/lang/CharSequence"), (42, .class_ 48), (0, u "java/lang/CharSequence$1CodePointIterator"), (10, .class_ 60), (0, u "java/lang/CharSequence$1CharIterator"), (5, .class_ 67), (0, u "java/lang/Object")] 63

/-- java/lang/CharSequence -/
def k4 : Class := { plain "java/lang/CharSequence" (some 0) with
  accessFlags := 1537
  interfaces := #[]
  cf := some (fileOf pool4 2 #[.nestMembers #[47, 59]] #[] 1537 66 #[] #[])
  fields := #[]
  methods := #[]
  instanceTypes := #[]
  staticTypes := #[]
  resolved := Array.replicate 131 none
  statics := none }

def pool5 : Array CpInfo := pool [(1, .class_ 2), (0, u "java/lang/constant/Constable"), (0, .class_ 4), (0, u "java/lang/Object")] 6

/-- java/lang/constant/Constable -/
def k5 : Class := { plain "java/lang/constant/Constable" (some 0) with
  accessFlags := 1537
  interfaces := #[]
  cf := some (fileOf pool5 1 #[] #[] 1537 3 #[] #[])
  fields := #[]
  methods := #[]
  instanceTypes := #[]
  staticTypes := #[]
  resolved := Array.replicate 11 none
  statics := none }

def pool6 : Array CpInfo := pool [(1, .class_ 2), (0, u "java/lang/constant/ConstantDesc"), (0, .class_ 4), (0, u "java/lang/Object")] 32

/-- java/lang/constant/ConstantDesc -/
def k6 : Class := { plain "java/lang/constant/ConstantDesc" (some 0) with
  accessFlags := 1537
  interfaces := #[]
  cf := some (fileOf pool6 1 #[] #[] 1537 3 #[] #[])
  fields := #[]
  methods := #[]
  instanceTypes := #[]
  staticTypes := #[]
  resolved := Array.replicate 37 none
  statics := none }

def pool7 : Array CpInfo := pool [(1, .methodref 2 3), (0, .class_ 4), (0, .nameAndType 5 6), (0, u "java/lang/Object"), (0, u "<init>"), (0, u "()V"), (2, .fieldref 10 11), (0, .class_ 12), (0, .nameAndType 13 14), (0, u "java/lang/String"), (0, u "value"), (0, u "[B"), (0, .fieldref 10 16), (0, .nameAndType 17 18), (0, u "coder"), (0, u "B"), (2, u "hash"), (0, u "I"), (2, u "hashIsZero"), (0, u "Z"), (0, .methodref 10 28), (0, .nameAndType 5 29), (0, u "([CIILjava/lang/Void;)V"), (8, .fieldref 10 39), (0, .nameAndType 40 26), (0, u "COMPACT_STRINGS"), (1, .class_ 44), (1, u "java/lang/StringUTF16"), (0, u "compress"), (1, .methodref 42 48), (0, .nameAndType 49 50), (0, u "coderFromArrayLen"), (0, u "([BI)B"), (56, .class_ 109), (1, u "java/lang/StringLatin1"), (32, u "()Z"), (34, .methodref 42 178), (0, .nameAndType 45 179), (0, u "([CII)[B"), (361, .methodref 107 542), (0, .nameAndType 543 544), (0, u "equals"), (0, u "([B[B)Z"), (28, u "(Ljava/lang/Object;)Z"), (1, .class_ 576), (0, u "java/lang/CharSequence"), (22, u "CASE_INSENSITIVE_ORDER"), (0, u "Ljava/util/Comparator;"), (91, u "isEmpty"), (317, u "([C)V"), (90, u "serialPersistentFields"), (0, u "[Ljava/io/ObjectStreamField;"), (0, .class_ 1104), (0, u "java/lang/String$CaseInsensitiveComparator"), (1, .class_ 1107), (0, u "java/io/Serializable"), (0, .class_ 1109), (0, u "java/lang/Comparable"), (0, .class_ 1111), (0, u "java/lang/constant/Constable"), (0, .class_ 1113), (0, u "java/lang/constant/ConstantDesc"), (2, u "serialVersionUID"), (0, u "J"), (3, u "REPL"), (0, u "C"), (2, u "LATIN1"), (1, u "UTF16")] 323

def k7m0 : Method := { name := "<init>", desc := "()V", sig := { parameters := [], returnType := none }, accessFlags := 1, code := none }
def k7c1 : Code := { maxStack := 5, maxLocals := 2, code := jdk_42_method_3_code, exceptionTable := #[], attributes := #[] }
def k7m1 : Method := { name := "<init>", desc := "([C)V", sig := { parameters := [(.array .char)], returnType := none }, accessFlags := 1, code := some k7c1 }
def k7c2 : Code := { maxStack := 1, maxLocals := 1, code := jdk_42_method_55_code, exceptionTable := #[], attributes := #[] }
def k7m2 : Method := { name := "isEmpty", desc := "()Z", sig := { parameters := [], returnType := some .boolean }, accessFlags := 1, code := some k7c2 }
def k7c3 : Code := { maxStack := 2, maxLocals := 3, code := jdk_42_method_66_code, exceptionTable := #[], attributes := #[] }
def k7m3 : Method := { name := "equals", desc := "(Ljava/lang/Object;)Z", sig := { parameters := [(.object "java/lang/Object")], returnType := some .boolean }, accessFlags := 1, code := some k7c3 }
def k7c4 : Code := { maxStack := 4, maxLocals := 6, code := jdk_42_method_149_code, exceptionTable := #[], attributes := #[] }
def k7m4 : Method := { name := "<init>", desc := "([CIILjava/lang/Void;)V", sig := { parameters := [(.array .char), .int, .int, (.object "java/lang/Void")], returnType := none }, accessFlags := 2, code := some k7c4 }
/-- java/lang/String -/
def k7 : Class := { plain "java/lang/String" (some 0) with
  accessFlags := 49
  interfaces := #[2, 3, 4, 5, 6]
  cf := some (fileOf pool7 10 #[.nestMembers #[1103]] #[{ accessFlags := 1, nameIndex := 5, descriptorIndex := 6, attributes := #[] }, { accessFlags := 1, nameIndex := 5, descriptorIndex := 1010, attributes := #[] }, { accessFlags := 1, nameIndex := 692, descriptorIndex := 142, attributes := #[] }, { accessFlags := 1, nameIndex := 543, descriptorIndex := 573, attributes := #[] }, { accessFlags := 2, nameIndex := 5, descriptorIndex := 29, attributes := #[] }] 49 2 #[1106, 1108, 575, 1110, 1112] #[{ accessFlags := 18, nameIndex := 13, descriptorIndex := 14, attributes := #[] }, { accessFlags := 18, nameIndex := 17, descriptorIndex := 18, attributes := #[] }, { accessFlags := 2, nameIndex := 21, descriptorIndex := 22, attributes := #[] }, { accessFlags := 2, nameIndex := 25, descriptorIndex := 26, attributes := #[] }, { accessFlags := 26, nameIndex := 1116, descriptorIndex := 1117, attributes := #[] }, { accessFlags := 24, nameIndex := 40, descriptorIndex := 26, attributes := #[] }, { accessFlags := 26, nameIndex := 1101, descriptorIndex := 1102, attributes := #[] }, { accessFlags := 26, nameIndex := 1121, descriptorIndex := 1122, attributes := #[] }, { accessFlags := 25, nameIndex := 599, descriptorIndex := 600, attributes := #[] }, { accessFlags := 24, nameIndex := 1125, descriptorIndex := 18, attributes := #[] }, { accessFlags := 24, nameIndex := 1127, descriptorIndex := 18, attributes := #[] }])
  fields := #[{ name := "value", type := (.array .byte), accessFlags := 18, slot := 0, constantValue := 0 }, { name := "coder", type := .byte, accessFlags := 18, slot := 1, constantValue := 0 }, { name := "hash", type := .int, accessFlags := 2, slot := 2, constantValue := 0 }, { name := "hashIsZero", type := .boolean, accessFlags := 2, slot := 3, constantValue := 0 }, { name := "serialVersionUID", type := .long, accessFlags := 26, slot := 0, constantValue := 0 }, { name := "COMPACT_STRINGS", type := .boolean, accessFlags := 24, slot := 1, constantValue := 0 }, { name := "serialPersistentFields", type := (.array (.object "java/io/ObjectStreamField")), accessFlags := 26, slot := 2, constantValue := 0 }, { name := "REPL", type := .char, accessFlags := 26, slot := 3, constantValue := 0 }, { name := "CASE_INSENSITIVE_ORDER", type := (.object "java/util/Comparator"), accessFlags := 25, slot := 4, constantValue := 0 }, { name := "LATIN1", type := .byte, accessFlags := 24, slot := 5, constantValue := 0 }, { name := "UTF16", type := .byte, accessFlags := 24, slot := 6, constantValue := 0 }]
  methods := #[k7m0, k7m1, k7m2, k7m3, k7m4]
  instanceTypes := #[(.array .byte), .byte, .int, .boolean]
  staticTypes := #[.long, .boolean, (.array (.object "java/io/ObjectStreamField")), .char, (.object "java/util/Comparator"), .byte, .byte]
  resolved := Array.replicate 1451 none
  statics := some 0 }

def pool8 : Array CpInfo := pool [(6, .class_ 8), (1, u "java/lang/Object"), (0, u "<init>"), (0, u "()V"), (1, .class_ 14), (1, u "java/lang/StringUTF16"), (31, u "$assertionsDisabled"), (0, u "Z"), (13, u "HI_BYTE_SHIFT"), (0, u "I"), (2, u "LO_BYTE_SHIFT"), (49, .methodref 12 116), (0, .nameAndType 117 118), (0, u "compress"), (0, u "([CI[BII)I"), (3, u "([CII)[B"), (138, u "coderFromArrayLen"), (0, u "([BI)B"), (106, .class_ 371), (1, u "java/lang/StringUTF16$LinesSpliterator"), (58, u "MAX_LENGTH"), (196, .class_ 628), (0, u "java/lang/StringUTF16$CodePointsSpliterator"), (0, .class_ 630), (0, u "java/lang/StringUTF16$CharsSpliterator")] 4

def k8m0 : Method := { name := "<init>", desc := "()V", sig := { parameters := [], returnType := none }, accessFlags := 0, code := none }
def k8c1 : Code := { maxStack := 2, maxLocals := 2, code := jdk_52_method_15_code, exceptionTable := #[], attributes := #[] }
def k8m1 : Method := { name := "coderFromArrayLen", desc := "([BI)B", sig := { parameters := [(.array .byte), .int], returnType := some .byte }, accessFlags := 8, code := some k8c1 }
def k8c2 : Code := { maxStack := 5, maxLocals := 6, code := jdk_52_method_16_code, exceptionTable := #[], attributes := #[] }
def k8m2 : Method := { name := "compress", desc := "([CII)[B", sig := { parameters := [(.array .char), .int, .int], returnType := some (.array .byte) }, accessFlags := 9, code := some k8c2 }
def k8c3 : Code := { maxStack := 3, maxLocals := 7, code := jdk_52_method_21_code, exceptionTable := #[], attributes := #[] }
def k8m3 : Method := { name := "compress", desc := "([CI[BII)I", sig := { parameters := [(.array .char), .int, (.array .byte), .int, .int], returnType := some .int }, accessFlags := 9, code := some k8c3 }
/-- java/lang/StringUTF16 -/
def k8 : Class := { plain "java/lang/StringUTF16" (some 0) with
  accessFlags := 48
  interfaces := #[]
  cf := some (fileOf pool8 12 #[.nestMembers #[627, 629, 369]] #[{ accessFlags := 0, nameIndex := 9, descriptorIndex := 10, attributes := #[] }, { accessFlags := 8, nameIndex := 261, descriptorIndex := 262, attributes := #[] }, { accessFlags := 9, nameIndex := 117, descriptorIndex := 122, attributes := #[] }, { accessFlags := 9, nameIndex := 117, descriptorIndex := 118, attributes := #[] }] 48 6 #[] #[{ accessFlags := 26, nameIndex := 61, descriptorIndex := 62, attributes := #[] }, { accessFlags := 26, nameIndex := 65, descriptorIndex := 62, attributes := #[] }, { accessFlags := 24, nameIndex := 430, descriptorIndex := 62, attributes := #[] }, { accessFlags := 4120, nameIndex := 46, descriptorIndex := 47, attributes := #[] }])
  fields := #[{ name := "HI_BYTE_SHIFT", type := .int, accessFlags := 26, slot := 0, constantValue := 0 }, { name := "LO_BYTE_SHIFT", type := .int, accessFlags := 26, slot := 1, constantValue := 0 }, { name := "MAX_LENGTH", type := .int, accessFlags := 24, slot := 2, constantValue := 0 }, { name := "$assertionsDisabled", type := .boolean, accessFlags := 4120, slot := 3, constantValue := 0 }]
  methods := #[k8m0, k8m1, k8m2, k8m3]
  instanceTypes := #[]
  staticTypes := #[.int, .int, .int, .boolean]
  resolved := Array.replicate 635 none
  statics := none }

def pool9 : Array CpInfo := pool [(1, .methodref 2 3), (0, .class_ 4), (0, .nameAndType 5 6), (0, u "java/lang/Object"), (0, u "<init>"), (0, u "()V"), (0, .methodref 8 9), (0, .class_ 10), (0, .nameAndType 11 12), (0, u "java/lang/String"), (0, u "isEmpty"), (0, u "()Z"), (11, .fieldref 25 26), (0, .class_ 27), (0, .nameAndType 28 29), (0, u "com/example/backchain/backchain/model/Predicate"), (0, u "name"), (0, u "Ljava/lang/String;"), (0, .fieldref 25 31), (0, .nameAndType 32 33), (0, u "arity"), (0, u "I"), (0, .methodref 8 35), (0, .nameAndType 36 37), (0, u "equals"), (0, u "(Ljava/lang/Object;)Z"), (5, u "(Ljava/lang/String;I)V")] 24

def k9c0 : Code := { maxStack := 4, maxLocals := 3, code := prog_24_method_1_code, exceptionTable := #[], attributes := #[] }
def k9m0 : Method := { name := "<init>", desc := "(Ljava/lang/String;I)V", sig := { parameters := [(.object "java/lang/String"), .int], returnType := none }, accessFlags := 1, code := some k9c0 }
def k9c1 : Code := { maxStack := 2, maxLocals := 3, code := prog_24_method_4_code, exceptionTable := #[], attributes := #[] }
def k9m1 : Method := { name := "equals", desc := "(Ljava/lang/Object;)Z", sig := { parameters := [(.object "java/lang/Object")], returnType := some .boolean }, accessFlags := 1, code := some k9c1 }
/-- com/example/backchain/backchain/model/Predicate -/
def k9 : Class := { plain "com/example/backchain/backchain/model/Predicate" (some 0) with
  accessFlags := 33
  interfaces := #[]
  cf := some (fileOf pool9 25 #[] #[{ accessFlags := 1, nameIndex := 5, descriptorIndex := 43, attributes := #[] }, { accessFlags := 1, nameIndex := 36, descriptorIndex := 37, attributes := #[] }] 33 2 #[] #[{ accessFlags := 18, nameIndex := 28, descriptorIndex := 29, attributes := #[] }, { accessFlags := 18, nameIndex := 32, descriptorIndex := 33, attributes := #[] }])
  fields := #[{ name := "name", type := (.object "java/lang/String"), accessFlags := 18, slot := 0, constantValue := 0 }, { name := "arity", type := .int, accessFlags := 18, slot := 1, constantValue := 0 }]
  methods := #[k9m0, k9m1]
  instanceTypes := #[(.object "java/lang/String"), .int]
  staticTypes := #[]
  resolved := Array.replicate 68 none
  statics := none }

def pool10 : Array CpInfo := pool [(4, .class_ 6), (1, u "java/lang/Object"), (0, u "<init>"), (0, u "()V"), (5, .class_ 16), (1, u "java/lang/StringLatin1"), (104, u "$assertionsDisabled"), (0, u "Z"), (98, .class_ 223), (1, u "java/lang/StringLatin1$LinesSpliterator"), (57, u "equals"), (0, u "([B[B)Z"), (107, .class_ 391), (0, u "java/lang/StringLatin1$CharsSpliterator")] 3

def k10m0 : Method := { name := "<init>", desc := "()V", sig := { parameters := [], returnType := none }, accessFlags := 0, code := none }
def k10c1 : Code := { maxStack := 3, maxLocals := 3, code := jdk_43_method_13_code, exceptionTable := #[], attributes := #[] }
def k10m1 : Method := { name := "equals", desc := "([B[B)Z", sig := { parameters := [(.array .byte), (.array .byte)], returnType := some .boolean }, accessFlags := 9, code := some k10c1 }
/-- java/lang/StringLatin1 -/
def k10 : Class := { plain "java/lang/StringLatin1" (some 0) with
  accessFlags := 48
  interfaces := #[]
  cf := some (fileOf pool10 14 #[.nestMembers #[390, 221]] #[{ accessFlags := 0, nameIndex := 7, descriptorIndex := 8, attributes := #[] }, { accessFlags := 9, nameIndex := 281, descriptorIndex := 282, attributes := #[] }] 48 4 #[] #[{ accessFlags := 4120, nameIndex := 121, descriptorIndex := 122, attributes := #[] }])
  fields := #[{ name := "$assertionsDisabled", type := .boolean, accessFlags := 4120, slot := 0, constantValue := 0 }]
  methods := #[k10m0, k10m1]
  instanceTypes := #[]
  staticTypes := #[.boolean]
  resolved := Array.replicate 395 none
  statics := none }

def pool11 : Array CpInfo := pool [(2, .class_ 4), (1, u "java/lang/Object"), (0, u "<init>"), (0, u "()V"), (17, .class_ 26), (1, u "jdk/internal/util/Preconditions"), (28, .class_ 56), (0, u "jdk/internal/util/Preconditions$4"), (57, .class_ 115), (0, u "jdk/internal/util/Preconditions$1"), (7, u "SIOOBE_FORMATTER"), (0, u "Ljava/util/function/BiFunction;"), (0, .class_ 126), (0, u "jdk/internal/util/Preconditions$2"), (3, u "AIOOBE_FORMATTER"), (0, .class_ 132), (0, u "jdk/internal/util/Preconditions$3"), (3, u "IOOBE_FORMATTER")] 57

def k11m0 : Method := { name := "<init>", desc := "()V", sig := { parameters := [], returnType := none }, accessFlags := 1, code := none }
/-- jdk/internal/util/Preconditions -/
def k11 : Class := { plain "jdk/internal/util/Preconditions" (some 0) with
  accessFlags := 33
  interfaces := #[]
  cf := some (fileOf pool11 24 #[.nestMembers #[55, 131, 125, 114]] #[{ accessFlags := 1, nameIndex := 5, descriptorIndex := 6, attributes := #[] }] 33 2 #[] #[{ accessFlags := 25, nameIndex := 123, descriptorIndex := 124, attributes := #[] }, { accessFlags := 25, nameIndex := 130, descriptorIndex := 124, attributes := #[] }, { accessFlags := 25, nameIndex := 136, descriptorIndex := 124, attributes := #[] }])
  fields := #[{ name := "SIOOBE_FORMATTER", type := (.object "java/util/function/BiFunction"), accessFlags := 25, slot := 0, constantValue := 0 }, { name := "AIOOBE_FORMATTER", type := (.object "java/util/function/BiFunction"), accessFlags := 25, slot := 1, constantValue := 0 }, { name := "IOOBE_FORMATTER", type := (.object "java/util/function/BiFunction"), accessFlags := 25, slot := 2, constantValue := 0 }]
  methods := #[k11m0]
  instanceTypes := #[]
  staticTypes := #[(.object "java/util/function/BiFunction"), (.object "java/util/function/BiFunction"), (.object "java/util/function/BiFunction")]
  resolved := Array.replicate 194 none
  statics := some 1 }

def pool12 : Array CpInfo := pool [(9, u "<init>"), (6, .class_ 18), (1, u "java/lang/Object"), (0, u "()V"), (1, .class_ 23), (1, u "jdk/internal/util/ArraysSupport"), (0, u "LOG2_ARRAY_LONG_INDEX_SCALE"), (0, u "I"), (2, u "U"), (0, u "Ljdk/internal/misc/Unsafe;"), (8, u "BIG_ENDIAN"), (0, u "Z"), (8, u "LOG2_BYTE_BIT_SIZE"), (4, u "LOG2_ARRAY_INT_INDEX_SCALE"), (54, u "JLA"), (0, u "Ljdk/internal/access/JavaLangAccess;"), (11, u "LOG2_ARRAY_BOOLEAN_INDEX_SCALE"), (9, u "LOG2_ARRAY_BYTE_INDEX_SCALE"), (5, u "LOG2_ARRAY_CHAR_INDEX_SCALE"), (5, u "LOG2_ARRAY_SHORT_INDEX_SCALE"), (18, u "LOG2_ARRAY_FLOAT_INDEX_SCALE"), (24, u "LOG2_ARRAY_DOUBLE_INDEX_SCALE"), (89, u "T_BOOLEAN"), (2, u "T_CHAR"), (1, u "T_FLOAT"), (1, u "T_DOUBLE"), (1, u "T_BYTE"), (1, u "T_SHORT"), (1, u "T_INT"), (1, u "T_LONG"), (1, u "SOFT_MAX_ARRAY_LENGTH")] 83

def k12m0 : Method := { name := "<init>", desc := "()V", sig := { parameters := [], returnType := none }, accessFlags := 2, code := none }
/-- jdk/internal/util/ArraysSupport -/
def k12 : Class := { plain "jdk/internal/util/ArraysSupport" (some 0) with
  accessFlags := 33
  interfaces := #[]
  cf := some (fileOf pool12 21 #[] #[{ accessFlags := 2, nameIndex := 9, descriptorIndex := 19, attributes := #[] }] 33 16 #[] #[{ accessFlags := 24, nameIndex := 28, descriptorIndex := 29, attributes := #[] }, { accessFlags := 26, nameIndex := 38, descriptorIndex := 39, attributes := #[] }, { accessFlags := 25, nameIndex := 121, descriptorIndex := 25, attributes := #[] }, { accessFlags := 25, nameIndex := 131, descriptorIndex := 25, attributes := #[] }, { accessFlags := 25, nameIndex := 137, descriptorIndex := 25, attributes := #[] }, { accessFlags := 25, nameIndex := 143, descriptorIndex := 25, attributes := #[] }, { accessFlags := 25, nameIndex := 53, descriptorIndex := 25, attributes := #[] }, { accessFlags := 25, nameIndex := 24, descriptorIndex := 25, attributes := #[] }, { accessFlags := 25, nameIndex := 162, descriptorIndex := 25, attributes := #[] }, { accessFlags := 25, nameIndex := 187, descriptorIndex := 25, attributes := #[] }, { accessFlags := 26, nameIndex := 48, descriptorIndex := 25, attributes := #[] }, { accessFlags := 25, nameIndex := 277, descriptorIndex := 25, attributes := #[] }, { accessFlags := 25, nameIndex := 280, descriptorIndex := 25, attributes := #[] }, { accessFlags := 25, nameIndex := 282, descriptorIndex := 25, attributes := #[] }, { accessFlags := 25, nameIndex := 284, descriptorIndex := 25, attributes := #[] }, { accessFlags := 25, nameIndex := 286, descriptorIndex := 25, attributes := #[] }, { accessFlags := 25, nameIndex := 288, descriptorIndex := 25, attributes := #[] }, { accessFlags := 25, nameIndex := 290, descriptorIndex := 25, attributes := #[] }, { accessFlags := 25, nameIndex := 292, descriptorIndex := 25, attributes := #[] }, { accessFlags := 26, nameIndex := 108, descriptorIndex := 109, attributes := #[] }, { accessFlags := 25, nameIndex := 294, descriptorIndex := 25, attributes := #[] }])
  fields := #[{ name := "U", type := (.object "jdk/internal/misc/Unsafe"), accessFlags := 24, slot := 0, constantValue := 0 }, { name := "BIG_ENDIAN", type := .boolean, accessFlags := 26, slot := 1, constantValue := 0 }, { name := "LOG2_ARRAY_BOOLEAN_INDEX_SCALE", type := .int, accessFlags := 25, slot := 2, constantValue := 0 }, { name := "LOG2_ARRAY_BYTE_INDEX_SCALE", type := .int, accessFlags := 25, slot := 3, constantValue := 0 }, { name := "LOG2_ARRAY_CHAR_INDEX_SCALE", type := .int, accessFlags := 25, slot := 4, constantValue := 0 }, { name := "LOG2_ARRAY_SHORT_INDEX_SCALE", type := .int, accessFlags := 25, slot := 5, constantValue := 0 }, { name := "LOG2_ARRAY_INT_INDEX_SCALE", type := .int, accessFlags := 25, slot := 6, constantValue := 0 }, { name := "LOG2_ARRAY_LONG_INDEX_SCALE", type := .int, accessFlags := 25, slot := 7, constantValue := 0 }, { name := "LOG2_ARRAY_FLOAT_INDEX_SCALE", type := .int, accessFlags := 25, slot := 8, constantValue := 0 }, { name := "LOG2_ARRAY_DOUBLE_INDEX_SCALE", type := .int, accessFlags := 25, slot := 9, constantValue := 0 }, { name := "LOG2_BYTE_BIT_SIZE", type := .int, accessFlags := 26, slot := 10, constantValue := 0 }, { name := "T_BOOLEAN", type := .int, accessFlags := 25, slot := 11, constantValue := 0 }, { name := "T_CHAR", type := .int, accessFlags := 25, slot := 12, constantValue := 0 }, { name := "T_FLOAT", type := .int, accessFlags := 25, slot := 13, constantValue := 0 }, { name := "T_DOUBLE", type := .int, accessFlags := 25, slot := 14, constantValue := 0 }, { name := "T_BYTE", type := .int, accessFlags := 25, slot := 15, constantValue := 0 }, { name := "T_SHORT", type := .int, accessFlags := 25, slot := 16, constantValue := 0 }, { name := "T_INT", type := .int, accessFlags := 25, slot := 17, constantValue := 0 }, { name := "T_LONG", type := .int, accessFlags := 25, slot := 18, constantValue := 0 }, { name := "JLA", type := (.object "jdk/internal/access/JavaLangAccess"), accessFlags := 26, slot := 19, constantValue := 0 }, { name := "SOFT_MAX_ARRAY_LENGTH", type := .int, accessFlags := 25, slot := 20, constantValue := 0 }]
  methods := #[k12m0]
  instanceTypes := #[]
  staticTypes := #[(.object "jdk/internal/misc/Unsafe"), .boolean, .int, .int, .int, .int, .int, .int, .int, .int, .int, .int, .int, .int, .int, .int, .int, .int, .int, (.object "jdk/internal/access/JavaLangAccess"), .int]
  resolved := Array.replicate 378 none
  statics := none }

def pool13 : Array CpInfo := pool [(1, u "java/lang/Cloneable"), (0, .class_ 1), (0, u "java/lang/Object"), (0, .class_ 3)] 3

/-- java/lang/Cloneable -/
def k13 : Class := { plain "java/lang/Cloneable" (some 0) with
  accessFlags := 1537
  interfaces := #[]
  cf := some (fileOf pool13 2 #[] #[] 1537 4 #[] #[])
  fields := #[]
  methods := #[]
  instanceTypes := #[]
  staticTypes := #[]
  resolved := Array.replicate 8 none
  statics := none }

/-- the primitive byte -/
def k14 : Class := { plain "byte" none with kind := .primitive 'B', accessFlags := 0x411 }
/-- [B -/
def k15 : Class := { plain "[B" (some 0) with kind := .array 14 .byte, interfaces := #[13, 2], accessFlags := 1041 }

/-- the primitive char -/
def k16 : Class := { plain "char" none with kind := .primitive 'C', accessFlags := 0x411 }
/-- [C -/
def k17 : Class := { plain "[C" (some 0) with kind := .array 16 .char, interfaces := #[13, 2], accessFlags := 1041 }

/-- the primitive int -/
def k18 : Class := { plain "int" none with kind := .primitive 'I', accessFlags := 0x411 }
/-- [I -/
def k19 : Class := { plain "[I" (some 0) with kind := .array 18 .int, interfaces := #[13, 2], accessFlags := 1041 }

def heap : Heap := #[{ cls := 7, slots := #[.long 0, .int 1, .null, .int 0, .null, .int 0, .int 0], vm := .statics 7 },
  { cls := 11, slots := #[.null, .null, .null], vm := .statics 11 }]
def classes : Array Class := #[k0, k1, k2, k3, k4, k5, k6, k7, k8, k9, k10, k11, k12, k13, k14, k15, k16, k17, k18, k19]
def interned : List (Array UInt16 × Addr) := []
def slotsUsed : Nat := 10
def theMethod : MethodId := ⟨1, 1⟩
def args0 : Array Value := #[.int 3, .int 2, .int 1, .int 2, .int 5]
def aboutOver (below : List Frame) : State where
  vm := { classes := classes, interned := interned.toArray }
  heap := heap
  slotsUsed := slotsUsed
  threads := #[{ frames := .invoking theMethod args0 :: below }]
def below0 : List Frame := [.native { method := ⟨0, 0⟩, args := #[] }]
def about1 : State := aboutOver below0
def p0 : Program := .bare "" "" ""
def e0 : Env := launch0.env 0 0 0
theorem w_frames : about1.frames = Frame.invoking theMethod args0 :: below0 := rfl
set_option maxRecDepth 65536 in
theorem w_args : argsFit about1.vm theMethod args0 = true := by decide +kernel
set_option maxRecDepth 65536 in
theorem w_heap : heapFits about1 = true := by decide +kernel
set_option maxRecDepth 65536 in
theorem w_runnable : about1.curStatus? = some .runnable := by decide +kernel
set_option maxRecDepth 65536 in
theorem w_alone : about1.alone = true := by decide +kernel
set_option maxRecDepth 65536 in
theorem w_named : about1.methodNamed? x = some theMethod := by decide +kernel
set_option maxRecDepth 65536 in
theorem w_hears : about1.hears theMethod below0 = true := by decide +kernel
set_option maxRecDepth 65536 in
theorem w_ripe : about1.ripe theMethod args0 below0 = true := by decide +kernel
theorem w_running : about1.status = .running := rfl
set_option maxRecDepth 65536 in
theorem w_room : about1.hasRoom e0.platform room_1 = true :=
  launch0.hasRoom_least _ room_1 (by decide +kernel) (by decide +kernel) (by decide +kernel) (by decide +kernel) (by decide +kernel) (by decide +kernel)
theorem allAtoms_all (ts : List Jvm.Cond) (a : Array Jvm.Value) (st : Jvm.State) : (allAtoms ts).before a st = ts.all (fun c => c.before a st) := by
  induction ts with
  | nil => rfl
  | cons c t ih =>
    show (Jvm.Cond.and c (allAtoms t)).before a st = _
    rw [Jvm.Cond.before_and, ih, List.all_cons]
def words1 : List Jvm.Cond := Jvm.Cond.code x code maxLocals ret :: tables_1
/-- a 'code' word, met by the world's own term for the bytes: nothing is compared byte by byte -/
theorem code_word {y : MethodName} {bytes : ByteArray} {mx : Nat} {rt : Option FieldType} {a : Array Value} {s : State} {m : MethodId} {meth : Method} {c : Code} (h1 : s.methodNamed? y = some m) (h2 : s.vm.method? m = some meth) (h3 : meth.code = some c) (h4 : c.code = bytes)
    (h5 : (c.maxLocals == mx && c.exceptionTable.isEmpty && decide (c.maxStack ≤ mostOperands) && decide (meth.sig.returnType = rt) && !meth.locks && decide (parseMethodDescriptor y.desc = some meth.sig)) = true) : (Jvm.Cond.code y bytes mx rt).before a s = true := by
  simp only [Bool.and_eq_true, beq_iff_eq, Bool.not_eq_true', decide_eq_true_eq] at h5
  obtain ⟨⟨⟨⟨⟨g1, g2⟩, g3⟩, g4⟩, g5⟩, g6⟩ := h5
  simp [Cond.before, Cond.holds, Cond.value, h1, h2, h3, h4, g1, g2, g3, g4, g5, g6]
def isCode : Jvm.Cond → Bool
  | .code _ _ _ _ => true
  | _ => false
theorem all_split {L : List Jvm.Cond} {P : Jvm.Cond → Bool} (h1 : L.all (fun c => isCode c || P c) = true) (h2 : ∀ c ∈ L.filter isCode, P c = true) : L.all P = true := by
  refine List.all_eq_true.mpr fun c hc => ?_
  have h := List.all_eq_true.mp h1 c hc
  rcases Bool.eq_false_or_eq_true (isCode c) with hi | hi
  · exact h2 c (List.mem_filter.mpr ⟨hc, hi⟩)
  · simpa [hi] using h
set_option maxRecDepth 65536 in
theorem w_c0 : (Jvm.Cond.code x code maxLocals ret).before args0 about1 = true := code_word (m := ⟨1, 1⟩) (meth := k1m1) (c := k1c1) (by decide +kernel) rfl rfl rfl (by decide +kernel)
set_option maxRecDepth 65536 in
theorem w_c1 : (Jvm.Cond.code ({ cls := "com/example/backchain/backchain/model/PredicateEqualsPinLaw", name := "makeName", desc := "(ICC)Ljava/lang/String;" } : Jvm.MethodName) method_3_code (4 : Nat) (Option.some (Jvm.ClassFile.FieldType.object "java/lang/String"))).before args0 about1 = true := code_word (m := ⟨1, 2⟩) (meth := k1m2) (c := k1c2) (by decide +kernel) rfl rfl rfl (by decide +kernel)
set_option maxRecDepth 65536 in
theorem w_c2 : (Jvm.Cond.code ({ cls := "java/lang/String", name := "<init>", desc := "([C)V" } : Jvm.MethodName) jdk_42_method_3_code (2 : Nat) (Option.none : Option Jvm.ClassFile.FieldType)).before args0 about1 = true := code_word (m := ⟨7, 1⟩) (meth := k7m1) (c := k7c1) (by decide +kernel) rfl rfl rfl (by decide +kernel)
set_option maxRecDepth 65536 in
theorem w_c3 : (Jvm.Cond.code ({ cls := "java/lang/String", name := "<init>", desc := "([CIILjava/lang/Void;)V" } : Jvm.MethodName) jdk_42_method_149_code (6 : Nat) (Option.none : Option Jvm.ClassFile.FieldType)).before args0 about1 = true := code_word (m := ⟨7, 4⟩) (meth := k7m4) (c := k7c4) (by decide +kernel) rfl rfl rfl (by decide +kernel)
set_option maxRecDepth 65536 in
theorem w_c4 : (Jvm.Cond.code ({ cls := "java/lang/Object", name := "<init>", desc := "()V" } : Jvm.MethodName) object_method_1_code (1 : Nat) (Option.none : Option Jvm.ClassFile.FieldType)).before args0 about1 = true := code_word (m := ⟨0, 0⟩) (meth := k0m0) (c := k0c0) (by decide +kernel) rfl rfl rfl (by decide +kernel)
set_option maxRecDepth 65536 in
theorem w_c5 : (Jvm.Cond.code ({ cls := "java/lang/StringUTF16", name := "compress", desc := "([CII)[B" } : Jvm.MethodName) jdk_52_method_16_code (6 : Nat) (Option.some (Jvm.ClassFile.FieldType.array Jvm.ClassFile.FieldType.byte))).before args0 about1 = true := code_word (m := ⟨8, 2⟩) (meth := k8m2) (c := k8c2) (by decide +kernel) rfl rfl rfl (by decide +kernel)
set_option maxRecDepth 65536 in
theorem w_c6 : (Jvm.Cond.code ({ cls := "java/lang/StringUTF16", name := "compress", desc := "([CI[BII)I" } : Jvm.MethodName) jdk_52_method_21_code (7 : Nat) (Option.some Jvm.ClassFile.FieldType.int)).before args0 about1 = true := code_word (m := ⟨8, 3⟩) (meth := k8m3) (c := k8c3) (by decide +kernel) rfl rfl rfl (by decide +kernel)
set_option maxRecDepth 65536 in
theorem w_c7 : (Jvm.Cond.code ({ cls := "java/lang/StringUTF16", name := "coderFromArrayLen", desc := "([BI)B" } : Jvm.MethodName) jdk_52_method_15_code (2 : Nat) (Option.some Jvm.ClassFile.FieldType.byte)).before args0 about1 = true := code_word (m := ⟨8, 1⟩) (meth := k8m1) (c := k8c1) (by decide +kernel) rfl rfl rfl (by decide +kernel)
set_option maxRecDepth 65536 in
theorem w_c8 : (Jvm.Cond.code ({ cls := "com/example/backchain/backchain/model/Predicate", name := "<init>", desc := "(Ljava/lang/String;I)V" } : Jvm.MethodName) prog_24_method_1_code (3 : Nat) (Option.none : Option Jvm.ClassFile.FieldType)).before args0 about1 = true := code_word (m := ⟨9, 0⟩) (meth := k9m0) (c := k9c0) (by decide +kernel) rfl rfl rfl (by decide +kernel)
set_option maxRecDepth 65536 in
theorem w_c9 : (Jvm.Cond.code ({ cls := "java/lang/String", name := "isEmpty", desc := "()Z" } : Jvm.MethodName) jdk_42_method_55_code (1 : Nat) (Option.some Jvm.ClassFile.FieldType.boolean)).before args0 about1 = true := code_word (m := ⟨7, 2⟩) (meth := k7m2) (c := k7c2) (by decide +kernel) rfl rfl rfl (by decide +kernel)
set_option maxRecDepth 65536 in
theorem w_c10 : (Jvm.Cond.code ({ cls := "com/example/backchain/backchain/model/Predicate", name := "equals", desc := "(Ljava/lang/Object;)Z" } : Jvm.MethodName) prog_24_method_4_code (3 : Nat) (Option.some Jvm.ClassFile.FieldType.boolean)).before args0 about1 = true := code_word (m := ⟨9, 1⟩) (meth := k9m1) (c := k9c1) (by decide +kernel) rfl rfl rfl (by decide +kernel)
set_option maxRecDepth 65536 in
theorem w_c11 : (Jvm.Cond.code ({ cls := "java/lang/String", name := "equals", desc := "(Ljava/lang/Object;)Z" } : Jvm.MethodName) jdk_42_method_66_code (3 : Nat) (Option.some Jvm.ClassFile.FieldType.boolean)).before args0 about1 = true := code_word (m := ⟨7, 3⟩) (meth := k7m3) (c := k7c3) (by decide +kernel) rfl rfl rfl (by decide +kernel)
set_option maxRecDepth 65536 in
theorem w_c12 : (Jvm.Cond.code ({ cls := "java/lang/StringLatin1", name := "equals", desc := "([B[B)Z" } : Jvm.MethodName) jdk_43_method_13_code (3 : Nat) (Option.some Jvm.ClassFile.FieldType.boolean)).before args0 about1 = true := code_word (m := ⟨10, 1⟩) (meth := k10m1) (c := k10c1) (by decide +kernel) rfl rfl rfl (by decide +kernel)
def codes1 : List Jvm.Cond := [Jvm.Cond.code x code maxLocals ret, Jvm.Cond.code ({ cls := "com/example/backchain/backchain/model/PredicateEqualsPinLaw", name := "makeName", desc := "(ICC)Ljava/lang/String;" } : Jvm.MethodName) method_3_code (4 : Nat) (Option.some (Jvm.ClassFile.FieldType.object "java/lang/String")), Jvm.Cond.code ({ cls := "java/lang/String", name := "<init>", desc := "([C)V" } : Jvm.MethodName) jdk_42_method_3_code (2 : Nat) (Option.none : Option Jvm.ClassFile.FieldType), Jvm.Cond.code ({ cls := "java/lang/String", name := "<init>", desc := "([CIILjava/lang/Void;)V" } : Jvm.MethodName) jdk_42_method_149_code (6 : Nat) (Option.none : Option Jvm.ClassFile.FieldType), Jvm.Cond.code ({ cls := "java/lang/Object", name := "<init>", desc := "()V" } : Jvm.MethodName) object_method_1_code (1 : Nat) (Option.none : Option Jvm.ClassFile.FieldType), Jvm.Cond.code ({ cls := "java/lang/StringUTF16", name := "compress", desc := "([CII)[B" } : Jvm.MethodName) jdk_52_method_16_code (6 : Nat) (Option.some (Jvm.ClassFile.FieldType.array Jvm.ClassFile.FieldType.byte)), Jvm.Cond.code ({ cls := "java/lang/StringUTF16", name := "compress", desc := "([CI[BII)I" } : Jvm.MethodName) jdk_52_method_21_code (7 : Nat) (Option.some Jvm.ClassFile.FieldType.int), Jvm.Cond.code ({ cls := "java/lang/StringUTF16", name := "coderFromArrayLen", desc := "([BI)B" } : Jvm.MethodName) jdk_52_method_15_code (2 : Nat) (Option.some Jvm.ClassFile.FieldType.byte), Jvm.Cond.code ({ cls := "com/example/backchain/backchain/model/Predicate", name := "<init>", desc := "(Ljava/lang/String;I)V" } : Jvm.MethodName) prog_24_method_1_code (3 : Nat) (Option.none : Option Jvm.ClassFile.FieldType), Jvm.Cond.code ({ cls := "java/lang/String", name := "isEmpty", desc := "()Z" } : Jvm.MethodName) jdk_42_method_55_code (1 : Nat) (Option.some Jvm.ClassFile.FieldType.boolean), Jvm.Cond.code ({ cls := "com/example/backchain/backchain/model/Predicate", name := "equals", desc := "(Ljava/lang/Object;)Z" } : Jvm.MethodName) prog_24_method_4_code (3 : Nat) (Option.some Jvm.ClassFile.FieldType.boolean), Jvm.Cond.code ({ cls := "java/lang/String", name := "equals", desc := "(Ljava/lang/Object;)Z" } : Jvm.MethodName) jdk_42_method_66_code (3 : Nat) (Option.some Jvm.ClassFile.FieldType.boolean), Jvm.Cond.code ({ cls := "java/lang/StringLatin1", name := "equals", desc := "([B[B)Z" } : Jvm.MethodName) jdk_43_method_13_code (3 : Nat) (Option.some Jvm.ClassFile.FieldType.boolean)]
set_option maxRecDepth 65536 in
theorem codes_eq : words1.filter isCode = codes1 := rfl
theorem w_codes : ∀ c ∈ words1.filter isCode, c.before args0 about1 = true := by
  rw [codes_eq]
  intro c hc
  simp only [codes1, List.mem_cons, List.not_mem_nil, or_false] at hc
  rcases hc with rfl | rfl | rfl | rfl | rfl | rfl | rfl | rfl | rfl | rfl | rfl | rfl | rfl
  · exact w_c0
  · exact w_c1
  · exact w_c2
  · exact w_c3
  · exact w_c4
  · exact w_c5
  · exact w_c6
  · exact w_c7
  · exact w_c8
  · exact w_c9
  · exact w_c10
  · exact w_c11
  · exact w_c12
set_option maxRecDepth 65536 in
theorem w_t1 : (words1.take 24).all (fun c => isCode c || c.before args0 about1) = true := by decide +kernel
set_option maxRecDepth 65536 in
theorem w_t2 : ((words1.drop 24).take 24).all (fun c => isCode c || c.before args0 about1) = true := by decide +kernel
set_option maxRecDepth 65536 in
theorem w_t3 : ((words1.drop 24).drop 24).all (fun c => isCode c || c.before args0 about1) = true := by decide +kernel
theorem w_tables : (allAtoms (Jvm.Cond.code x code maxLocals ret :: tables_1)).before args0 about1 = true := by
  rw [allAtoms_all]
  show words1.all (fun c => c.before args0 about1) = true
  refine all_split ?_ w_codes
  rw [← List.take_append_drop 24 words1, List.all_append, w_t1, ← List.take_append_drop 24 (words1.drop 24), List.all_append, w_t2, w_t3]
  rfl
set_option maxRecDepth 65536 in
theorem w_rest : rest_1_c.before args0 about1 = true := by decide +kernel
set_option maxRecDepth 65536 in
theorem w_case : (Jvm.Cond.and given_1 narrow_1).before args0 about1 = true := by decide +kernel
theorem w_applies : (headSpec (Jvm.Cond.code x code maxLocals ret :: tables_1) room_1).applies x e0.platform about1 = true :=
  (Spec.applies_iff w_frames).mpr ⟨w_running, w_runnable, w_alone, w_named, w_hears, w_ripe, w_room, w_tables⟩
theorem atStart : AtStart classFile x code maxLocals ret World_1 tables_1 room_1 Calls_1 rest_1 Pre_1 launch0 p0 e0 about1 theMethod args0 below0 :=
  ⟨lists_1, trivial, launch0.admits_env _ _ _, launch0.least_env, fairChoices_fair.cas, fairChoices_fair.clock, w_frames, w_args, w_heap, w_applies, trivial, w_rest, w_case⟩
end start1
theorem witness_1 : WitnessClaimed_1 := ⟨start1.p0, start1.e0, start1.about1, start1.theMethod, start1.args0, start1.below0, start1.atStart⟩
end Jvm.Pilot.@@N@@
