import JvmDerived
import JvmDerived.Pilot.@@N@@Statement
import JvmDerived.Pilot.@@N@@Code
set_option linter.unusedVariables false
set_option linter.unusedSimpArgs false
namespace Jvm.Own
open Sem ClassFile Op Lib Jvm.Stand Jvm.Free Jvm.LawKit Jvm.RoadKit
/-- from the frame f over T the run ends in a return that Q speaks of -/
def Run (p : Program) (e : Env) (s : State) (below : List Frame) (Q : Option Value → Heap → List Loc → Prop) (cm sm : Nat) (T : State) (f : JFrame) : Prop :=
  ∃ s₂ o, Steps p.tables e below (T.setTop f) s₂ ∧ s₂.status = .running ∧ Ended s₂ below o ∧ ∃ v L, o = .returned v ∧ Q v s₂.heap L ∧ FrameEnd s o s₂ L cm sm
section Own
variable {p : Program} {l : Launch} {e : Env} {R : Room} {s : State} {m : MethodId} {args : Array Value} {below : List Frame} {meth : Method} {c : Code} {T : State} {locs : List Loc} {cells slots : Nat} {Q : Option Value → Heap → List Loc → Prop} {cm sm : Nat}
theorem go {T' : State} {f f' : JFrame} (st : ∀ target, Steps p.tables e below (T'.setTop f') target → Steps p.tables e below (T.setTop f) target) (k : Run p e s below Q cm sm T' f') : Run p e s below Q cm sm T f := by
  obtain ⟨s₂, o, h, r⟩ := k
  exact ⟨s₂, o, st _ h, r⟩
theorem retZ (X : Stand p l e R s m args below meth c T locs cells slots) (hx : p.tables.exec = Jvm.exec) {pc : Nat} {Ls : Array Slot} {z : Int32} {t : FieldType} {rest : List Value} (hret : meth.sig.returnType = some t) (ht : t = .boolean ∨ t = .byte ∨ t = .char ∨ t = .short)
    (hd : decode c.code pc = .ok (.ireturn, 1)) (hlk : meth.locks = false) (hc : cells ≤ cm) (hs : slots ≤ sm) (hq : Q (some (.int (nar t z))) T.heap locs) : Run p e s below Q cm sm T (mkF m pc Ls (.int z :: rest)) := by
  obtain ⟨fs, hr, hrun, hended, hW, hsame⟩ := X.leave (v := some (.int (nar t z))) (fun h => by rw [hret] at h; cases h) hlk
  exact ⟨_, _, retN X hx hret ht hd hr, hrun, hended, _, _, rfl, hq, ⟨_, rfl⟩, hW, hsame.mono hc hs⟩
theorem retW (X : Stand p l e R s m args below meth c T locs cells slots) (hx : p.tables.exec = Jvm.exec) {pc : Nat} {Ls : Array Slot} {w : Value} {t : FieldType} {i : Instr} {rest : List Value} (hret : meth.sig.returnType = some t) (hn : narrow t w = w)
    (hi : (i = .ireturn ∧ (t = .int ∨ t = .boolean ∨ t = .byte ∨ t = .char ∨ t = .short) ∧ ∃ z, w = .int z) ∨ (i = .lreturn ∧ t = .long ∧ ∃ z, w = .long z) ∨ (i = .dreturn ∧ t = .double ∧ ∃ z, w = .double z) ∨ (i = .freturn ∧ t = .float ∧ ∃ z, w = .float z) ∨ (i = .areturn ∧ t.isReference = true ∧ w.isRef = true))
    (hd : decode c.code pc = .ok (i, 1)) (hlk : meth.locks = false) (hc : cells ≤ cm) (hs : slots ≤ sm) (hq : Q (some w) T.heap locs) : Run p e s below Q cm sm T (mkF m pc Ls (w :: rest)) := by
  obtain ⟨fs, hr, hrun, hended, hW, hsame⟩ := X.leave (v := some w) (fun h => by rw [hret] at h; cases h) hlk
  exact ⟨_, _, retOut X hx hret hn hi hd hr, hrun, hended, _, _, rfl, hq, ⟨_, rfl⟩, hW, hsame.mono hc hs⟩
theorem retV (X : Stand p l e R s m args below meth c T locs cells slots) (hx : p.tables.exec = Jvm.exec) {pc : Nat} {Ls : Array Slot} (hret : meth.sig.returnType = none)
    (hd : decode c.code pc = .ok (.return_, 1)) (hlk : meth.locks = false) (hc : cells ≤ cm) (hs : slots ≤ sm) (hq : Q none T.heap locs) : Run p e s below Q cm sm T (mkF m pc Ls []) := by
  obtain ⟨fs, hr, hrun, hended, hW, hsame⟩ := X.leave (v := none) (fun _ => rfl) hlk
  exact ⟨_, _, X.returnOut hx hret hd hr, hrun, hended, _, _, rfl, hq, ⟨_, rfl⟩, hW, hsame.mono hc hs⟩
/-- the same, where Strings may have been interned -/
def RunW (p : Program) (e : Env) (s : State) (below : List Frame) (Q : Option Value → Heap → List Loc → Prop) (cm sm : Nat) (T : State) (f : JFrame) : Prop :=
  ∃ s₂ o, Steps p.tables e below (T.setTop f) s₂ ∧ s₂.status = .running ∧ Ended s₂ below o ∧ ∃ v L, o = .returned v ∧ Q v s₂.heap L ∧ ReturnedEndW s o s₂ L cm sm
theorem goW {T' : State} {f f' : JFrame} (st : ∀ target, Steps p.tables e below (T'.setTop f') target → Steps p.tables e below (T.setTop f) target) (k : RunW p e s below Q cm sm T' f') : RunW p e s below Q cm sm T f := by
  obtain ⟨s₂, o, h, r⟩ := k
  exact ⟨s₂, o, st _ h, r⟩
theorem retZW {vm₁ : Vm} (X : Stand p l e R (s.setVm vm₁) m args below meth c T locs cells slots) {n : Nat} (hS : s.Since vm₁ n) (hn : n ≤ T.heap.size) (hx : p.tables.exec = Jvm.exec) {pc : Nat} {Ls : Array Slot} {z : Int32} {t : FieldType} {rest : List Value} (hret : meth.sig.returnType = some t) (ht : t = .boolean ∨ t = .byte ∨ t = .char ∨ t = .short)
    (hd : decode c.code pc = .ok (.ireturn, 1)) (hlk : meth.locks = false) (hc : cells ≤ cm) (hs : slots ≤ sm) (hq : Q (some (.int (nar t z))) T.heap locs) : RunW p e s below Q cm sm T (mkF m pc Ls (.int z :: rest)) := by
  obtain ⟨fs, hr, hrun, hended, h1, h2, h3, h4⟩ := X.leaveW hS hn (v := some (.int (nar t z))) (fun h => by rw [hret] at h; cases h) hlk
  exact ⟨_, _, retN X hx hret ht hd hr, hrun, hended, _, _, rfl, hq, h1, h2, h3, h4.mono hc hs⟩
theorem retWW {vm₁ : Vm} (X : Stand p l e R (s.setVm vm₁) m args below meth c T locs cells slots) {n : Nat} (hS : s.Since vm₁ n) (hn : n ≤ T.heap.size) (hx : p.tables.exec = Jvm.exec) {pc : Nat} {Ls : Array Slot} {w : Value} {t : FieldType} {i : Instr} {rest : List Value} (hret : meth.sig.returnType = some t) (hn' : narrow t w = w)
    (hi : (i = .ireturn ∧ (t = .int ∨ t = .boolean ∨ t = .byte ∨ t = .char ∨ t = .short) ∧ ∃ z, w = .int z) ∨ (i = .lreturn ∧ t = .long ∧ ∃ z, w = .long z) ∨ (i = .dreturn ∧ t = .double ∧ ∃ z, w = .double z) ∨ (i = .freturn ∧ t = .float ∧ ∃ z, w = .float z) ∨ (i = .areturn ∧ t.isReference = true ∧ w.isRef = true))
    (hd : decode c.code pc = .ok (i, 1)) (hlk : meth.locks = false) (hc : cells ≤ cm) (hs : slots ≤ sm) (hq : Q (some w) T.heap locs) : RunW p e s below Q cm sm T (mkF m pc Ls (w :: rest)) := by
  obtain ⟨fs, hr, hrun, hended, h1, h2, h3, h4⟩ := X.leaveW hS hn (v := some w) (fun h => by rw [hret] at h; cases h) hlk
  exact ⟨_, _, retOut X hx hret hn' hi hd hr, hrun, hended, _, _, rfl, hq, h1, h2, h3, h4.mono hc hs⟩
theorem retVW {vm₁ : Vm} (X : Stand p l e R (s.setVm vm₁) m args below meth c T locs cells slots) {n : Nat} (hS : s.Since vm₁ n) (hn : n ≤ T.heap.size) (hx : p.tables.exec = Jvm.exec) {pc : Nat} {Ls : Array Slot} (hret : meth.sig.returnType = none)
    (hd : decode c.code pc = .ok (.return_, 1)) (hlk : meth.locks = false) (hc : cells ≤ cm) (hs : slots ≤ sm) (hq : Q none T.heap locs) : RunW p e s below Q cm sm T (mkF m pc Ls []) := by
  obtain ⟨fs, hr, hrun, hended, h1, h2, h3, h4⟩ := X.leaveW hS hn (v := none) (fun _ => rfl) hlk
  exact ⟨_, _, X.returnOut hx hret hd hr, hrun, hended, _, _, rfl, hq, h1, h2, h3, h4.mono hc hs⟩
end Own
section Heap
variable {Z : State} {h h' h0 : Heap} {a b : Addr} {ty : FieldType} {vs : List Value} {ws ws' : List Addr} {v : Value} {k : ClassId} {z j : Int32}
/-- an array and all that it holds -/
def Ary (Z : State) (h : Heap) (a : Addr) (ty : FieldType) (vs : List Value) : Prop := ∃ c : Cell, Arr Z h a c ty ∧ c.slots.toList = vs ∧ vs.length < 2147483648 ∧ ∀ v ∈ vs, fits ty v = true
theorem Ary.lt (A : Ary Z h a ty vs) : a < h.size := by obtain ⟨c, A, -⟩ := A; exact A.lt
theorem Ary.ext (A : Ary Z h a ty vs) (E : Ext h h') : Ary Z h' a ty vs := by obtain ⟨c, A, r⟩ := A; exact ⟨c, A.ext E, r⟩
theorem Ary.keep (A : Ary Z h a ty vs) (K : Keep h h' ws) (q : a ∉ ws) : Ary Z h' a ty vs := by obtain ⟨c, A, r⟩ := A; exact ⟨c, ⟨K.2.1 a c A.1 q, A.2⟩, r⟩
theorem Ary.set (A : Ary Z h a ty vs) {i : Nat} (W : Wr h h' a i v) (hv : fits ty v = true) : Ary Z h' a ty (vs.set i v) := by
  obtain ⟨c, A, e, l, f⟩ := A
  refine ⟨_, A.same W, by simp [Cell.setSlot, e], by simpa using l, fun w hw => ?_⟩
  rcases List.mem_or_eq_of_mem_set hw with q | rfl
  · exact f w q
  · exact hv
theorem Ary.ld (A : Ary Z h a ty vs) (hj : ¬ j < 0) (hv : vs[j.toNatClampNeg]? = some v) : ∃ c : Cell, Arr Z h a c ty ∧ ¬ (j < 0 ∨ c.slots.size ≤ j.toNatClampNeg) ∧ c.slots[j.toNatClampNeg]? = some v := by
  obtain ⟨c, A, e, l, f⟩ := A
  have q : c.slots[j.toNatClampNeg]? = some v := by rw [← Array.getElem?_toList, e]; exact hv
  exact ⟨c, A, fun r => r.elim hj fun y => absurd (Array.getElem?_eq_some_iff.mp q).1 (Nat.not_lt.mpr y), q⟩
theorem Ary.st (A : Ary Z h a ty vs) (hj : ¬ j < 0) (hl : j.toNatClampNeg < vs.length) : ∃ c : Cell, Arr Z h a c ty ∧ ¬ (j < 0 ∨ c.slots.size ≤ j.toNatClampNeg) := by
  obtain ⟨c, A, e, l, f⟩ := A
  refine ⟨c, A, fun r => r.elim hj fun y => ?_⟩
  rw [← e, Array.length_toList] at hl
  omega
theorem Ary.len (A : Ary Z h a ty vs) : ∃ c : Cell, Arr Z h a c ty ∧ c.slots.size.toInt32 = vs.length.toInt32 := by
  obtain ⟨c, A, e, l, f⟩ := A
  exact ⟨c, A, by rw [← e, Array.length_toList]⟩
theorem Ary.new (A : Arr Z h a (newA k ty z) ty) : Ary Z h a ty (List.replicate z.toNatClampNeg (defaultValue ty)) := by
  refine ⟨_, A, by simp [newA], ?_, fun v hv => ?_⟩
  · rw [List.length_replicate]
    have := Int32.toInt_lt z
    simp only [Int32.toNatClampNeg]
    omega
  · rw [List.eq_of_mem_replicate hv]
    cases ty <;> rfl
theorem Ary.fit (A : Ary Z h a ty vs) : ∃ c : Cell, Arr Z h a c ty ∧ FitC Z c ∧ c.slots.toList = vs ∧ c.slots.size = vs.length ∧ ∀ (h' : Heap) (b : Addr), Arr Z h' b (cloneOf c) ty → Ary Z h' b ty vs := by
  obtain ⟨c, A, e, l, f⟩ := A
  refine ⟨c, A, fitC_of A fun i hi v hv => ?_, e, by rw [← e, Array.length_toList], fun _ _ B => ⟨_, B, e, l, f⟩⟩
  refine f v ?_
  rw [← e]
  exact List.mem_of_getElem? (by rw [Array.getElem?_toList]; exact hv)
theorem ldI {p : Program} {l : Launch} {e : Env} {R : Room} {s : State} {m : MethodId} {args : Array Value} {below : List Frame} {meth : Method} {c : Code} {T : State} {locs : List Loc} {cells slots : Nat} (X : Stand p l e R s m args below meth c T locs cells slots) (hx : p.tables.exec = Jvm.exec) (hZ : Z.Warmed39 s.vm) (eT : T.heap = h) (A : Ary Z h a .int vs) (hj : ¬ j < 0) (hv : vs[j.toNatClampNeg]? = some v) {g : JFrame} (hg : g.method = m) {rest : List Value} (hs : g.stack = .int j :: .ref a :: rest) (hd : decode c.code g.pc = .ok (.iaload, 1)) (target : State)
    (hr : Steps p.tables e below (T.setTop { g with pc := g.pc + 1, stack := v :: rest }) target) : Steps p.tables e below (T.setTop g) target := by
  obtain ⟨cl, Ar, hin, hat⟩ := A.ld hj hv
  exact X.iaload hx (by rw [eT]; exact Ar.1) (State.isArrayOf_alike hZ.alike Ar.2.1) Ar.2.2 hin hat hg hs hd target hr
theorem ldJ {p : Program} {l : Launch} {e : Env} {R : Room} {s : State} {m : MethodId} {args : Array Value} {below : List Frame} {meth : Method} {c : Code} {T : State} {locs : List Loc} {cells slots : Nat} (X : Stand p l e R s m args below meth c T locs cells slots) (hx : p.tables.exec = Jvm.exec) (hZ : Z.Warmed39 s.vm) (eT : T.heap = h) (A : Ary Z h a .long vs) (hj : ¬ j < 0) (hv : vs[j.toNatClampNeg]? = some v) {g : JFrame} (hg : g.method = m) {rest : List Value} (hs : g.stack = .int j :: .ref a :: rest) (hd : decode c.code g.pc = .ok (.laload, 1)) (target : State)
    (hr : Steps p.tables e below (T.setTop { g with pc := g.pc + 1, stack := v :: rest }) target) : Steps p.tables e below (T.setTop g) target := by
  obtain ⟨cl, Ar, hin, hat⟩ := A.ld hj hv
  exact X.laload hx (by rw [eT]; exact Ar.1) (State.isArrayOf_alike hZ.alike Ar.2.1) Ar.2.2 hin hat hg hs hd target hr
theorem ldC {p : Program} {l : Launch} {e : Env} {R : Room} {s : State} {m : MethodId} {args : Array Value} {below : List Frame} {meth : Method} {c : Code} {T : State} {locs : List Loc} {cells slots : Nat} (X : Stand p l e R s m args below meth c T locs cells slots) (hx : p.tables.exec = Jvm.exec) (hZ : Z.Warmed39 s.vm) (eT : T.heap = h) (A : Ary Z h a .char vs) (hj : ¬ j < 0) (hv : vs[j.toNatClampNeg]? = some v) {g : JFrame} (hg : g.method = m) {rest : List Value} (hs : g.stack = .int j :: .ref a :: rest) (hd : decode c.code g.pc = .ok (.caload, 1)) (target : State)
    (hr : Steps p.tables e below (T.setTop { g with pc := g.pc + 1, stack := v :: rest }) target) : Steps p.tables e below (T.setTop g) target := by
  obtain ⟨cl, Ar, hin, hat⟩ := A.ld hj hv
  exact X.caload hx (by rw [eT]; exact Ar.1) (State.isArrayOf_alike hZ.alike Ar.2.1) Ar.2.2 hin hat hg hs hd target hr
theorem ldB {p : Program} {l : Launch} {e : Env} {R : Room} {s : State} {m : MethodId} {args : Array Value} {below : List Frame} {meth : Method} {c : Code} {T : State} {locs : List Loc} {cells slots : Nat} (X : Stand p l e R s m args below meth c T locs cells slots) (hx : p.tables.exec = Jvm.exec) (hZ : Z.Warmed39 s.vm) (eT : T.heap = h) (A : Ary Z h a .byte vs) (hj : ¬ j < 0) (hv : vs[j.toNatClampNeg]? = some v) {g : JFrame} (hg : g.method = m) {rest : List Value} (hs : g.stack = .int j :: .ref a :: rest) (hd : decode c.code g.pc = .ok (.baload, 1)) (target : State)
    (hr : Steps p.tables e below (T.setTop { g with pc := g.pc + 1, stack := v :: rest }) target) : Steps p.tables e below (T.setTop g) target := by
  obtain ⟨cl, Ar, hin, hat⟩ := A.ld hj hv
  exact X.baloadBytes hx (by rw [eT]; exact Ar.1) (State.isArrayOf_alike hZ.alike Ar.2.1) Ar.2.2 hin hat hg hs hd target hr
theorem ldZ {p : Program} {l : Launch} {e : Env} {R : Room} {s : State} {m : MethodId} {args : Array Value} {below : List Frame} {meth : Method} {c : Code} {T : State} {locs : List Loc} {cells slots : Nat} (X : Stand p l e R s m args below meth c T locs cells slots) (hx : p.tables.exec = Jvm.exec) (hZ : Z.Warmed39 s.vm) (eT : T.heap = h) (A : Ary Z h a .boolean vs) (hj : ¬ j < 0) (hv : vs[j.toNatClampNeg]? = some v) {g : JFrame} (hg : g.method = m) {rest : List Value} (hs : g.stack = .int j :: .ref a :: rest) (hd : decode c.code g.pc = .ok (.baload, 1)) (target : State)
    (hr : Steps p.tables e below (T.setTop { g with pc := g.pc + 1, stack := v :: rest }) target) : Steps p.tables e below (T.setTop g) target := by
  obtain ⟨cl, Ar, hin, hat⟩ := A.ld hj hv
  exact X.baloadBooleans hx (by rw [eT]; exact Ar.1) (State.isArrayOf_alike hZ.alike Ar.2.1) Ar.2.2 hin hat hg hs hd target hr
theorem ldD {p : Program} {l : Launch} {e : Env} {R : Room} {s : State} {m : MethodId} {args : Array Value} {below : List Frame} {meth : Method} {c : Code} {T : State} {locs : List Loc} {cells slots : Nat} (X : Stand p l e R s m args below meth c T locs cells slots) (hx : p.tables.exec = Jvm.exec) (hZ : Z.Warmed39 s.vm) (eT : T.heap = h) (A : Ary Z h a .double vs) (hj : ¬ j < 0) (hv : vs[j.toNatClampNeg]? = some v) {g : JFrame} (hg : g.method = m) {rest : List Value} (hs : g.stack = .int j :: .ref a :: rest) (hd : decode c.code g.pc = .ok (.daload, 1)) (target : State)
    (hr : Steps p.tables e below (T.setTop { g with pc := g.pc + 1, stack := v :: rest }) target) : Steps p.tables e below (T.setTop g) target := by
  obtain ⟨cl, Ar, hin, hat⟩ := A.ld hj hv
  exact X.daload hx (by rw [eT]; exact Ar.1) (State.isArrayOf_alike hZ.alike Ar.2.1) Ar.2.2 hin hat hg hs hd target hr
theorem ldR {p : Program} {l : Launch} {e : Env} {R : Room} {s : State} {m : MethodId} {args : Array Value} {below : List Frame} {meth : Method} {c : Code} {T : State} {locs : List Loc} {cells slots : Nat} (X : Stand p l e R s m args below meth c T locs cells slots) (hx : p.tables.exec = Jvm.exec) (hZ : Z.Warmed39 s.vm) (eT : T.heap = h) (A : Ary Z h a ty vs) (ht : ty.isReference = true) (hj : ¬ j < 0) (hv : vs[j.toNatClampNeg]? = some v) {g : JFrame} (hg : g.method = m) {rest : List Value} (hs : g.stack = .int j :: .ref a :: rest) (hd : decode c.code g.pc = .ok (.aaload, 1)) (target : State)
    (hr : Steps p.tables e below (T.setTop { g with pc := g.pc + 1, stack := v :: rest }) target) : Steps p.tables e below (T.setTop g) target := by
  obtain ⟨cl, Ar, hin, hat⟩ := A.ld hj hv
  exact X.aaload hx (by rw [eT]; exact Ar.1) (State.isArrayOf_alike hZ.alike Ar.2.1) ht Ar.2.2 hin hat hg hs hd target hr
theorem alen {p : Program} {l : Launch} {e : Env} {R : Room} {s : State} {m : MethodId} {args : Array Value} {below : List Frame} {meth : Method} {c : Code} {T : State} {locs : List Loc} {cells slots : Nat} (X : Stand p l e R s m args below meth c T locs cells slots) (hx : p.tables.exec = Jvm.exec) (hZ : Z.Warmed39 s.vm) (eT : T.heap = h) (A : Ary Z h a ty vs) (hn : vs.length.toInt32 = z) {g : JFrame} (hg : g.method = m) {rest : List Value} (hs : g.stack = .ref a :: rest) (hd : decode c.code g.pc = .ok (.arraylength, 1)) (target : State)
    (hr : Steps p.tables e below (T.setTop { g with pc := g.pc + 1, stack := .int z :: rest }) target) : Steps p.tables e below (T.setTop g) target := by
  obtain ⟨cl, Ar, ln⟩ := A.len
  exact X.arraylength hx (by rw [eT]; exact Ar.1) (State.isArrayOf_alike hZ.alike Ar.2.1) hg hs hd target (by rw [ln.trans hn]; exact hr)
theorem getI {xs : List Int32} {i : Nat} (q : i < xs.length) : (xs.map Value.int)[i]? = some (.int (xs.getD i 0)) := by
  simp [List.getElem?_map, List.getD_eq_getElem?_getD, List.getElem?_eq_getElem q]
theorem setI {xs : List Int32} {i : Nat} {x : Int32} : (xs.map Value.int).set i (.int x) = (xs.set i x).map Value.int := List.map_set.symm
/-- an array made over the class C -/
def OvA (Z : State) (h : Heap) (a : Addr) (C : String) : Prop := ∃ c : Cell, h[a]? = some c ∧ Ovr Z c.cls C
theorem OvA.keep {C : String} (O : OvA Z h a C) (K : Keep h h' ws) : OvA Z h' a C := by
  obtain ⟨c, e, o⟩ := O
  obtain ⟨c', q, r1, -, -⟩ := K.2.2 a c e
  exact ⟨c', q, r1 ▸ o⟩
theorem stA {C : String} {y : Addr} (O : OvA Z h a C) (A : Ary Z h a ty vs) (I : Ins Z h y C true) : Sto Z h a (.ref y) := by
  obtain ⟨c, A, -⟩ := A
  obtain ⟨c', e, o⟩ := O
  cases A.1.symm.trans e
  exact Sto.of A o I
theorem eqi_v {args : Array Value} {first s : State} {o : Option Outcome} {idx : List Nat} {t : Term} {k : Int32} (q : (Cond.eq t (.int k)).value args first o s idx = some true) : t.eval args first o idx s = some (.int k) := by
  simp only [Cond.value, Term.eval] at q
  cases ht : t.eval args first o idx s with
  | none => simp [ht] at q
  | some x => cases x <;> simp [ht] at q ⊢; exact q
theorem ary_start {args : Array Value} {s : State} {t : Term} {ty : FieldType} {a : Addr} {n : Int32} {vs : List Value} (hf : Fit s) (ev : t.eval args s none [] s = some (.ref a)) (ha : (Cond.arrayOf t ty).value args s none s [] = some true) (hl : (Cond.eq (.length t) (.int n)).value args s none s [] = some true) (hn : n = vs.length.toInt32) (hs : vs.length < 2147483648)
    (he : ∀ i, i < vs.length → (Term.elem t (.int i.toInt32)).eval args s none [] s = vs[i]?) : Ary s s.heap a ty vs := by
  obtain ⟨cl, A⟩ := Arr.start ev ha
  have hA := A.fin (Vm.Alike.refl _)
  have e1 := eqi_v hl
  have hsz : cl.slots.size < 2147483648 := by
    refine Nat.lt_of_not_le fun q => ?_
    have : ¬ cl.slots.size < 2 ^ 31 := by omega
    simp [Term.eval, ev, hA, this] at e1
  have e2 := len_f (idx := []) ev hA (by omega)
  rw [e1] at e2
  have e3 : n = cl.slots.size.toInt32 := by simpa using e2
  have e4 : cl.slots.size = vs.length := by
    have q := hn.symm.trans e3
    have q1 : vs.length.toInt32.toInt = vs.length := len_toInt (by omega)
    have q2 : cl.slots.size.toInt32.toInt = cl.slots.size := len_toInt (by omega)
    rw [q, q2] at q1
    omega
  have e5 : ∀ i, i < vs.length → cl.slots[i]? = vs[i]? := fun i hi => by
    have q := he i hi
    rw [List.getElem?_eq_getElem hi] at q
    have r := (elem_in q ev (Term.int_eval _) A.1).2
    have e : i.toInt32.toNatClampNeg = i := by simp only [Int32.toNatClampNeg, len_toInt (show i < 2 ^ 31 by omega)]; rfl
    rw [e] at r
    rw [r, List.getElem?_eq_getElem hi]
  refine ⟨cl, A, ?_, hs, fun v hv => ?_⟩
  · refine List.ext_getElem? fun i => ?_
    rw [Array.getElem?_toList]
    by_cases hi : i < vs.length
    · exact e5 i hi
    · rw [Array.getElem?_eq_none (by omega), List.getElem?_eq_none (by omega)]
  · obtain ⟨i, hi, rfl⟩ := List.getElem_of_mem hv
    have r := e5 i hi
    rw [List.getElem?_eq_getElem hi] at r
    have e : i.toInt32.toNatClampNeg = i := by simp only [Int32.toNatClampNeg, len_toInt (show i < 2 ^ 31 by omega)]; rfl
    exact elem_fits (j := i.toInt32) hf A (idx_in (by omega) (by omega)) (by rw [e]; exact r)
theorem nin1 {x y : Addr} (q : x ≠ y) : x ∉ [y] := ninS q nin0
theorem Arv.ary {dv : Value} (F : Arv Z h a k ty z vs dv) (hl : z.toNatClampNeg = vs.length) : Ary Z h a ty vs := by
  obtain ⟨c, A, -, S, hz, H, G⟩ := F
  have hs : c.slots.size = vs.length := S.trans hl
  have hb := (back32 hz).2
  refine ⟨c, A, List.ext_getElem? fun i => ?_, by omega, fun v hv => ?_⟩
  · rw [Array.getElem?_toList]
    by_cases hi : i < vs.length
    · rw [H i (by omega), List.getD_eq_getElem?_getD, List.getElem?_eq_getElem hi]
      rfl
    · rw [Array.getElem?_eq_none (by omega), List.getElem?_eq_none (by omega)]
  · obtain ⟨i, hi, rfl⟩ := List.getElem_of_mem hv
    have := G i (by omega)
    rw [List.getD_eq_getElem?_getD, List.getElem?_eq_getElem hi] at this
    exact this
end Heap
section Held
variable {p : Program} {l : Launch} {e : Env} {R : Room} {s : State} {m : MethodId} {args : Array Value} {below : List Frame} {meth : Method} {c : Code} {T : State} {locs : List Loc} {cells slots : Nat} {Q : Option Value → Heap → List Loc → Prop} {cm sm : Nat} {Z : State} {EL : List (String × Nat)} {h h0 : Heap} {aw : Array Value}
/-- a run that may intern, and keeps what is held of the constants EL -/
def RunH (Z : State) (EL : List (String × Nat)) (p : Program) (e : Env) (s : State) (below : List Frame) (Q : Option Value → Heap → List Loc → Prop) (cm sm : Nat) (T : State) (f : JFrame) : Prop :=
  ∃ s₂ o, Steps p.tables e below (T.setTop f) s₂ ∧ s₂.status = .running ∧ Ended s₂ below o ∧ ∃ v L, o = .returned v ∧ Q v s₂.heap L ∧ CHr Z EL s.vm s.heap s₂.vm s₂.heap ∧ ReturnedEndW s o s₂ L cm sm
theorem goH {T' : State} {f f' : JFrame} (st : ∀ target, Steps p.tables e below (T'.setTop f') target → Steps p.tables e below (T.setTop f) target) (k : RunH Z EL p e s below Q cm sm T' f') : RunH Z EL p e s below Q cm sm T f := by
  obtain ⟨s₂, o, h, r⟩ := k
  exact ⟨s₂, o, st _ h, r⟩
theorem retZH {vm₁ : Vm} (X : Stand p l e R (s.setVm vm₁) m args below meth c T locs cells slots) {n : Nat} (hS : s.Since vm₁ n) (hn : n ≤ T.heap.size) (hh : s.heap = h0) (eT : T.heap = h) (C : CHr Z EL s.vm h0 vm₁ h) (hEL : EW Z aw EL) (hZ : Z.Warmed39 vm₁) (hx : p.tables.exec = Jvm.exec) {pc : Nat} {Ls : Array Slot} {z : Int32} {t : FieldType} {rest : List Value} (hret : meth.sig.returnType = some t) (ht : t = .boolean ∨ t = .byte ∨ t = .char ∨ t = .short)
    (hd : decode c.code pc = .ok (.ireturn, 1)) (hlk : meth.locks = false) (hc : cells ≤ cm) (hs : slots ≤ sm) (hq : Q (some (.int (nar t z))) T.heap locs) : RunH Z EL p e s below Q cm sm T (mkF m pc Ls (.int z :: rest)) := by
  obtain ⟨fs, hr, hrun, hended, h1, h2, h3, h4⟩ := X.leaveW hS hn (v := some (.int (nar t z))) (fun h => by rw [hret] at h; cases h) hlk
  have C' := C.trans (CHv.at X hZ hEL C.1)
  subst hh eT
  exact ⟨_, _, retN X hx hret ht hd hr, hrun, hended, _, _, rfl, hq, C', h1, h2, h3, h4.mono hc hs⟩
theorem retWH {vm₁ : Vm} (X : Stand p l e R (s.setVm vm₁) m args below meth c T locs cells slots) {n : Nat} (hS : s.Since vm₁ n) (hn : n ≤ T.heap.size) (hh : s.heap = h0) (eT : T.heap = h) (C : CHr Z EL s.vm h0 vm₁ h) (hEL : EW Z aw EL) (hZ : Z.Warmed39 vm₁) (hx : p.tables.exec = Jvm.exec) {pc : Nat} {Ls : Array Slot} {w : Value} {t : FieldType} {i : Instr} {rest : List Value} (hret : meth.sig.returnType = some t) (hn' : narrow t w = w)
    (hi : (i = .ireturn ∧ (t = .int ∨ t = .boolean ∨ t = .byte ∨ t = .char ∨ t = .short) ∧ ∃ z, w = .int z) ∨ (i = .lreturn ∧ t = .long ∧ ∃ z, w = .long z) ∨ (i = .dreturn ∧ t = .double ∧ ∃ z, w = .double z) ∨ (i = .freturn ∧ t = .float ∧ ∃ z, w = .float z) ∨ (i = .areturn ∧ t.isReference = true ∧ w.isRef = true))
    (hd : decode c.code pc = .ok (i, 1)) (hlk : meth.locks = false) (hc : cells ≤ cm) (hs : slots ≤ sm) (hq : Q (some w) T.heap locs) : RunH Z EL p e s below Q cm sm T (mkF m pc Ls (w :: rest)) := by
  obtain ⟨fs, hr, hrun, hended, h1, h2, h3, h4⟩ := X.leaveW hS hn (v := some w) (fun h => by rw [hret] at h; cases h) hlk
  have C' := C.trans (CHv.at X hZ hEL C.1)
  subst hh eT
  exact ⟨_, _, retOut X hx hret hn' hi hd hr, hrun, hended, _, _, rfl, hq, C', h1, h2, h3, h4.mono hc hs⟩
theorem selP {s : State} {args : Array Value} {y : MethodName} {n : Nat} (wi : (Cond.instantiable y.cls n).before args s = true) (hpriv : s.PrivateAt y) (hinst : (Cond.instanceMethod y).before args s = true) (hy : y.cls ≠ "java/lang/invoke/MethodHandle" ∧ y.cls ≠ "java/lang/invoke/VarHandle") : (Cond.selects y.cls y y).before args s = true := by
  have w := wi
  obtain ⟨c, k, h1, h2, -⟩ := Cond.instantiable_spec wi
  refine selects_self_of_private h1 h2 ?_ hpriv hinst hy
  simp [Cond.before, Cond.holds, Cond.value, h1, h2] at w
  exact w.1.1.2.1
end Held
section NoIns
variable {Z : State} {a0 : Array Value} {O C S K : String} {n : Nat}
theorem NS.rootI (w : (Cond.noSuperclass O).before a0 Z = true) (wk : (Cond.instantiable K n).before a0 Z = true) (hn : O ≠ K) : NS Z O K := by
  obtain ⟨c, k, h1, h2, h3, -, -⟩ := Cond.noSuperclass_spec w
  obtain ⟨t, kt, g1, -⟩ := Cond.instantiable_spec wk
  have ne := ids_ne h1 g1 hn
  refine ⟨c, t, h1, g1, fun fuel => ?_⟩
  cases fuel with
  | zero => rfl
  | succ f => simp [Vm.isSubclassAux, ne, h2, h3]
theorem NS.noI (w : (Cond.superclass C S).before a0 Z = true) (wk : (Cond.instantiable K n).before a0 Z = true) (q : NS Z C K) (hn : C ≠ K) : ∃ c t, Z.vm.findClass C = some c ∧ Z.vm.findClass K = some t ∧ Z.vm.assignable c t = false := by
  obtain ⟨c, t, h0, g0, n3⟩ := q
  obtain ⟨p, k, kp, h1, h2, h3, h4, h5, -, h7⟩ := Cond.superclass_spec h0 w
  obtain ⟨t', k', g1, g2, g5, g7, -⟩ := Cond.instantiable_spec wk
  cases g0.symm.trans g1
  have ne := ids_ne h0 g0 hn
  simp only [Bool.or_eq_false_iff] at g7
  refine ⟨c, t, h0, g0, ?_⟩
  show Z.vm.assignableAux (255 + 1) c t = false
  simp [Vm.assignableAux, ne, h2, g2, h5, g5, g7.1, Vm.isSubclass, n3]
end NoIns
end Jvm.Own
namespace Jvm.Pilot.@@N@@
open Jvm Jvm.ClassFile Sem Op Lib Jvm.Free Jvm.Stand Jvm.LawKit Jvm.RoadKit Jvm.Own Bundle Jvm.Pilot.@@N@@.Jvm.D
theorem own_shr0 (n : Int32) : (n >>> ((0 : Int32) &&& 31)) = n := by
  apply Int32.toBitVec_inj.mp
  rw [Int32.toBitVec_shiftRight]
  show n.toBitVec.sshiftRight' (((0 : Int32) &&& 31).toBitVec.smod 32) = _
  rw [BitVec.sshiftRight_eq', show ((((0 : Int32) &&& 31).toBitVec.smod 32)).toNat = 0 by decide, BitVec.sshiftRight_zero]
theorem d13_0 : decode jdk_42_method_152_code 0 = .ok (.getstatic 38, 3) := by decide +kernel
theorem d13_3 : decode jdk_42_method_152_code 3 = .ok (.ifCond .eq 10, 3) := by decide +kernel
theorem d13_6 : decode jdk_42_method_152_code 6 = .ok (.aload_n 0, 1) := by decide +kernel
theorem d13_7 : decode jdk_42_method_152_code 7 = .ok (.getfield 15, 3) := by decide +kernel
theorem d13_10 : decode jdk_42_method_152_code 10 = .ok (.goto 4, 3) := by decide +kernel
theorem d13_14 : decode jdk_42_method_152_code 14 = .ok (.ireturn, 1) := by decide +kernel
theorem pn_13 : plainName "java/lang/String" = true := by first | (simp [plainName, overriddenIn]; done) | decide +kernel
theorem ef_13 (m : MethodId) (x0 : Addr) : entryFrame m #[(.ref x0)] 1 = mkF m 0 #[.val (.ref x0)] [] := by first | (simp [entryFrame, mkF, argsToLocals, Value.category]; done) | rfl
def Q13 (Z : State) (a0 : Addr) (cs : Int32) (h0 : Heap) (n0 : Nat) (v : Option Value) (h : Heap) (L : List Loc) : Prop := v = some (.int (0 : Int32)) ∧ Fr n0 L ∧ h = h0
set_option maxRecDepth 65536 in
set_option maxHeartbeats 40000000 in
theorem rm13 (l : Launch) (Z : State) (aw : Array Value) (hw : ∀ d ∈ tables_1, d.before aw Z = true) (ws : List Jvm.Cond) (a0 : Addr) (cs : Int32) (h0 : Heap) (n0 : Nat) (Z0 : n0 ≤ h0.size) (O0 : Old Z n0 h0) (S_cs : Sta Z Z.heap "java/lang/String" "COMPACT_STRINGS" "Z" (.int cs)) (hcs : ¬ (cs = (0 : Int32))) (E_a0 : Exa Z h0 a0 "java/lang/String") (F_c : Fld Z h0 a0 "java/lang/String" "coder" "B" (.int (0 : Int32))) :
    MetFree l (⟨"java/lang/String", "coder", "()B"⟩ : MethodName) (head1 (Jvm.Cond.code (⟨"java/lang/String", "coder", "()B"⟩ : MethodName) jdk_42_method_152_code 1 (some .byte) :: ws) ({ frames := 0, cells := 0, slots := 0, locals := 0 } : Room)) (fun a U => a = #[(.ref a0)] ∧ Z.Warmed39 U.vm ∧ U.heap = h0) (fun _ _ _ _ _ => True) (fun _ U o U' => ∃ v L, o = .returned v ∧ Q13 Z a0 cs h0 n0 v U'.heap L ∧ FrameEnd U o U' L ({ frames := 0, cells := 0, slots := 0, locals := 0 } : Room).cells ({ frames := 0, cells := 0, slots := 0, locals := 0 } : Room).slots) := by
  refine MetFree.of_bodySF (plainFor_of_name pn_13) hisR ?_
  intro p e s m args below meth c s₁ Bd hml0 hP hK
  obtain ⟨rfl, hZ, hh⟩ := hP
  have hx := Bd.exec
  have hby := Bd.bytes
  have hml : c.maxLocals = 1 := hml0
  have hown : s.vm.findClass "java/lang/String" = some m.cls := findClass_of_methodNamed Bd.named
  have hnm := (name_of_methodNamed Bd.named Bd.method).1
  have hlk : meth.locks = false := BodyLoose.notSynchronized Bd
  have X0 : Stand p l e ({ frames := 0, cells := 0, slots := 0, locals := 0 } : Room) s m #[(.ref a0)] below meth c s₁ [] 0 0 := Stand.of_body Bd
  have e0 : s₁.heap = h0 := by rw [← hh, Bd.state]; rfl
  have N0 := Fr.nil n0
  show Run p e s below (Q13 Z a0 cs h0 n0) ({ frames := 0, cells := 0, slots := 0, locals := 0 } : Room).cells ({ frames := 0, cells := 0, slots := 0, locals := 0 } : Room).slots s₁ (entryFrame m #[(.ref a0)] 1)
  rw [ef_13]
  show Run _ _ _ _ _ _ _ s₁ (mkF m 0 #[.val (.ref a0)] [])
  obtain ⟨T1, X1, e1, st1⟩ := getS2 X0 hx hZ hown (host := "") (Or.inl (hw _ (List.mem_of_getElem? (i := 21) rfl))) Via.refl e0 (S_cs.ext O0.2) (g := (mkF m 0 #[.val (.ref a0)] [])) rfl (hb hby d13_0)
  refine go st1 ?_
  show Run _ _ _ _ _ _ _ T1 (mkF m 3 #[.val (.ref a0)] [(.int cs)])
  refine go (T' := T1) (f' := (mkF m 6 #[.val (.ref a0)] [])) (by intro t k; exact XS.ifNo X1.here hx rfl (hb hby d13_3) rfl ((if0 _ _).trans (feq (hcs : ¬ (cs = (0 : Int32)))).1) k) ?_
  refine go (T' := T1) (f' := (mkF m 7 #[.val (.ref a0)] [(.ref a0)])) (by intro t k; exact XS.aloadN X1.here hx rfl (hb hby d13_6) rfl rfl k) ?_
  obtain ⟨T2, X2, e2, st2⟩ := getF X1 hx hZ hown (host := "") (Or.inl (hw _ (List.mem_of_getElem? (i := 33) rfl))) Via.refl e1 F_c (g := (mkF m 7 #[.val (.ref a0)] [(.ref a0)])) rfl rfl (hb hby d13_7)
  refine go st2 ?_
  show Run _ _ _ _ _ _ _ T2 (mkF m 10 #[.val (.ref a0)] [(.int (0 : Int32))])
  refine go (T' := T2) (f' := (mkF m 14 #[.val (.ref a0)] [(.int (0 : Int32))])) (by intro t k; exact XS.goto X2.here hx rfl (pc0 := 10) (pc' := 14) rfl (hb hby d13_10) (by decide) (by decide) k) ?_
  refine retZ X2 hx (t := .byte) Bd.returns (by simp) (hb hby d13_14) hlk (by decide) (by decide) ?_
  show Q13 Z a0 cs h0 n0 _ T2.heap _
  rw [e2]
  have hv' : (nar .byte (0 : Int32)) = (0 : Int32) := by
    rfl
  have hv : (some (.int (nar .byte (0 : Int32))) : Option Value) = some (.int (0 : Int32)) := congrArg (fun z => (some (.int z) : Option Value)) hv'
  exact ⟨hv, N0, rfl⟩
theorem d15_0 : decode jdk_42_method_154_code 0 = .ok (.getstatic 38, 3) := by decide +kernel
theorem d15_3 : decode jdk_42_method_154_code 3 = .ok (.ifCond .eq 14, 3) := by decide +kernel
theorem d15_6 : decode jdk_42_method_154_code 6 = .ok (.aload_n 0, 1) := by decide +kernel
theorem d15_7 : decode jdk_42_method_154_code 7 = .ok (.getfield 15, 3) := by decide +kernel
theorem d15_10 : decode jdk_42_method_154_code 10 = .ok (.ifCond .ne 7, 3) := by decide +kernel
theorem d15_13 : decode jdk_42_method_154_code 13 = .ok (.iconst 1, 1) := by decide +kernel
theorem d15_14 : decode jdk_42_method_154_code 14 = .ok (.goto 4, 3) := by decide +kernel
theorem d15_18 : decode jdk_42_method_154_code 18 = .ok (.ireturn, 1) := by decide +kernel
theorem ef_15 (m : MethodId) (x0 : Addr) : entryFrame m #[(.ref x0)] 1 = mkF m 0 #[.val (.ref x0)] [] := by first | (simp [entryFrame, mkF, argsToLocals, Value.category]; done) | rfl
def Q15 (Z : State) (a0 : Addr) (cs : Int32) (h0 : Heap) (n0 : Nat) (v : Option Value) (h : Heap) (L : List Loc) : Prop := v = some (.int (1 : Int32)) ∧ Fr n0 L ∧ h = h0
set_option maxRecDepth 65536 in
set_option maxHeartbeats 40000000 in
theorem rm15 (l : Launch) (Z : State) (aw : Array Value) (hw : ∀ d ∈ tables_1, d.before aw Z = true) (ws : List Jvm.Cond) (a0 : Addr) (cs : Int32) (h0 : Heap) (n0 : Nat) (Z0 : n0 ≤ h0.size) (O0 : Old Z n0 h0) (S_cs : Sta Z Z.heap "java/lang/String" "COMPACT_STRINGS" "Z" (.int cs)) (hcs : ¬ (cs = (0 : Int32))) (F_c : Fld Z h0 a0 "java/lang/String" "coder" "B" (.int (0 : Int32))) :
    MetFree l (⟨"java/lang/String", "isLatin1", "()Z"⟩ : MethodName) (head1 (Jvm.Cond.code (⟨"java/lang/String", "isLatin1", "()Z"⟩ : MethodName) jdk_42_method_154_code 1 (some .boolean) :: ws) ({ frames := 0, cells := 0, slots := 0, locals := 0 } : Room)) (fun a U => a = #[(.ref a0)] ∧ Z.Warmed39 U.vm ∧ U.heap = h0) (fun _ _ _ _ _ => True) (fun _ U o U' => ∃ v L, o = .returned v ∧ Q15 Z a0 cs h0 n0 v U'.heap L ∧ FrameEnd U o U' L ({ frames := 0, cells := 0, slots := 0, locals := 0 } : Room).cells ({ frames := 0, cells := 0, slots := 0, locals := 0 } : Room).slots) := by
  refine MetFree.of_bodySF (plainFor_of_name pn_13) hisR ?_
  intro p e s m args below meth c s₁ Bd hml0 hP hK
  obtain ⟨rfl, hZ, hh⟩ := hP
  have hx := Bd.exec
  have hby := Bd.bytes
  have hml : c.maxLocals = 1 := hml0
  have hown : s.vm.findClass "java/lang/String" = some m.cls := findClass_of_methodNamed Bd.named
  have hnm := (name_of_methodNamed Bd.named Bd.method).1
  have hlk : meth.locks = false := BodyLoose.notSynchronized Bd
  have X0 : Stand p l e ({ frames := 0, cells := 0, slots := 0, locals := 0 } : Room) s m #[(.ref a0)] below meth c s₁ [] 0 0 := Stand.of_body Bd
  have e0 : s₁.heap = h0 := by rw [← hh, Bd.state]; rfl
  have N0 := Fr.nil n0
  show Run p e s below (Q15 Z a0 cs h0 n0) ({ frames := 0, cells := 0, slots := 0, locals := 0 } : Room).cells ({ frames := 0, cells := 0, slots := 0, locals := 0 } : Room).slots s₁ (entryFrame m #[(.ref a0)] 1)
  rw [ef_15]
  show Run _ _ _ _ _ _ _ s₁ (mkF m 0 #[.val (.ref a0)] [])
  obtain ⟨T1, X1, e1, st1⟩ := getS2 X0 hx hZ hown (host := "") (Or.inl (hw _ (List.mem_of_getElem? (i := 21) rfl))) Via.refl e0 (S_cs.ext O0.2) (g := (mkF m 0 #[.val (.ref a0)] [])) rfl (hb hby d15_0)
  refine go st1 ?_
  show Run _ _ _ _ _ _ _ T1 (mkF m 3 #[.val (.ref a0)] [(.int cs)])
  refine go (T' := T1) (f' := (mkF m 6 #[.val (.ref a0)] [])) (by intro t k; exact XS.ifNo X1.here hx rfl (hb hby d15_3) rfl ((if0 _ _).trans (feq (hcs : ¬ (cs = (0 : Int32)))).1) k) ?_
  refine go (T' := T1) (f' := (mkF m 7 #[.val (.ref a0)] [(.ref a0)])) (by intro t k; exact XS.aloadN X1.here hx rfl (hb hby d15_6) rfl rfl k) ?_
  obtain ⟨T2, X2, e2, st2⟩ := getF X1 hx hZ hown (host := "") (Or.inl (hw _ (List.mem_of_getElem? (i := 33) rfl))) Via.refl e1 F_c (g := (mkF m 7 #[.val (.ref a0)] [(.ref a0)])) rfl rfl (hb hby d15_7)
  refine go st2 ?_
  show Run _ _ _ _ _ _ _ T2 (mkF m 10 #[.val (.ref a0)] [(.int (0 : Int32))])
  refine go (T' := T2) (f' := (mkF m 13 #[.val (.ref a0)] [])) (by intro t k; exact XS.ifNo X2.here hx rfl (hb hby d15_10) rfl ((if0 _ _).trans (teq (rfl : (0 : Int32) = (0 : Int32))).2) k) ?_
  refine go (T' := T2) (f' := (mkF m 14 #[.val (.ref a0)] [(.int (1 : Int32))])) (by intro t k; exact XS.iconst X2.here hx rfl (hb hby d15_13) k) ?_
  refine go (T' := T2) (f' := (mkF m 18 #[.val (.ref a0)] [(.int (1 : Int32))])) (by intro t k; exact XS.goto X2.here hx rfl (pc0 := 14) (pc' := 18) rfl (hb hby d15_14) (by decide) (by decide) k) ?_
  refine retZ X2 hx (t := .boolean) Bd.returns (by simp) (hb hby d15_18) hlk (by decide) (by decide) ?_
  show Q15 Z a0 cs h0 n0 _ T2.heap _
  rw [e2]
  have hv' : (nar .boolean (1 : Int32)) = (1 : Int32) := by
    rfl
  have hv : (some (.int (nar .boolean (1 : Int32))) : Option Value) = some (.int (1 : Int32)) := congrArg (fun z => (some (.int z) : Option Value)) hv'
  exact ⟨hv, N0, rfl⟩
theorem d12_0 : decode jdk_42_method_54_code 0 = .ok (.aload_n 0, 1) := by decide +kernel
theorem d12_1 : decode jdk_42_method_54_code 1 = .ok (.getfield 9, 3) := by decide +kernel
theorem d12_4 : decode jdk_42_method_54_code 4 = .ok (.arraylength, 1) := by decide +kernel
theorem d12_5 : decode jdk_42_method_54_code 5 = .ok (.aload_n 0, 1) := by decide +kernel
theorem d12_6 : decode jdk_42_method_54_code 6 = .ok (.invokevirtual 335, 3) := by decide +kernel
theorem d12_9 : decode jdk_42_method_54_code 9 = .ok (.ishr, 1) := by decide +kernel
theorem d12_10 : decode jdk_42_method_54_code 10 = .ok (.ireturn, 1) := by decide +kernel
theorem pd_2829B : parseMethodDescriptor "()B" = some ⟨[], some .byte⟩ := by decide +kernel
theorem ef_12 (m : MethodId) (x0 : Addr) : entryFrame m #[(.ref x0)] 1 = mkF m 0 #[.val (.ref x0)] [] := by first | (simp [entryFrame, mkF, argsToLocals, Value.category]; done) | rfl
def Q12 (Z : State) (a0 : Addr) (cs : Int32) (b : Addr) (vs : List Value) (n : Int32) (h0 : Heap) (n0 : Nat) (v : Option Value) (h : Heap) (L : List Loc) : Prop := v = some (.int n) ∧ Fr n0 L ∧ h = h0
set_option maxRecDepth 65536 in
set_option maxHeartbeats 40000000 in
theorem rm12 (l : Launch) (Z : State) (aw : Array Value) (hw : ∀ d ∈ tables_1, d.before aw Z = true) (ws : List Jvm.Cond) (a0 : Addr) (cs : Int32) (b : Addr) (vs : List Value) (n : Int32) (h0 : Heap) (n0 : Nat) (Z0 : n0 ≤ h0.size) (O0 : Old Z n0 h0) (S_cs : Sta Z Z.heap "java/lang/String" "COMPACT_STRINGS" "Z" (.int cs)) (hcs : ¬ (cs = (0 : Int32))) (E_a0 : Exa Z h0 a0 "java/lang/String") (F_c : Fld Z h0 a0 "java/lang/String" "coder" "B" (.int (0 : Int32))) (F_v : Fld Z h0 a0 "java/lang/String" "value" "[B" (.ref b)) (A_b : Ary Z h0 b .byte vs) (hlen : vs.length.toInt32 = n) :
    MetFree l (⟨"java/lang/String", "length", "()I"⟩ : MethodName) (head1 (Jvm.Cond.code (⟨"java/lang/String", "length", "()I"⟩ : MethodName) jdk_42_method_54_code 1 (some .int) :: ws) ({ frames := 1, cells := 0, slots := 0, locals := 13 } : Room)) (fun a U => a = #[(.ref a0)] ∧ Z.Warmed39 U.vm ∧ U.heap = h0) (fun _ _ _ _ _ => True) (fun _ U o U' => ∃ v L, o = .returned v ∧ Q12 Z a0 cs b vs n h0 n0 v U'.heap L ∧ FrameEnd U o U' L ({ frames := 1, cells := 0, slots := 0, locals := 13 } : Room).cells ({ frames := 1, cells := 0, slots := 0, locals := 13 } : Room).slots) := by
  refine MetFree.of_bodySF (plainFor_of_name pn_13) hisR ?_
  intro p e s m args below meth c s₁ Bd hml0 hP hK
  obtain ⟨rfl, hZ, hh⟩ := hP
  have hx := Bd.exec
  have hby := Bd.bytes
  have hml : c.maxLocals = 1 := hml0
  have hown : s.vm.findClass "java/lang/String" = some m.cls := findClass_of_methodNamed Bd.named
  have hnm := (name_of_methodNamed Bd.named Bd.method).1
  have hlk : meth.locks = false := BodyLoose.notSynchronized Bd
  have X0 : Stand p l e ({ frames := 1, cells := 0, slots := 0, locals := 13 } : Room) s m #[(.ref a0)] below meth c s₁ [] 0 0 := Stand.of_body Bd
  have e0 : s₁.heap = h0 := by rw [← hh, Bd.state]; rfl
  have N0 := Fr.nil n0
  show Run p e s below (Q12 Z a0 cs b vs n h0 n0) ({ frames := 1, cells := 0, slots := 0, locals := 13 } : Room).cells ({ frames := 1, cells := 0, slots := 0, locals := 13 } : Room).slots s₁ (entryFrame m #[(.ref a0)] 1)
  rw [ef_12]
  show Run _ _ _ _ _ _ _ s₁ (mkF m 0 #[.val (.ref a0)] [])
  refine go (T' := s₁) (f' := (mkF m 1 #[.val (.ref a0)] [(.ref a0)])) (by intro t k; exact XS.aloadN X0.here hx rfl (hb hby d12_0) rfl rfl k) ?_
  obtain ⟨T1, X1, e1, st1⟩ := getF X0 hx hZ hown (host := "") (Or.inl (hw _ (List.mem_of_getElem? (i := 35) rfl))) Via.refl e0 F_v (g := (mkF m 1 #[.val (.ref a0)] [(.ref a0)])) rfl rfl (hb hby d12_1)
  refine go st1 ?_
  show Run _ _ _ _ _ _ _ T1 (mkF m 4 #[.val (.ref a0)] [(.ref b)])
  refine go (T' := T1) (f' := (mkF m 5 #[.val (.ref a0)] [(.int n)])) (by intro t k; exact alen X1 hx hZ e1 A_b (z := n) hlen (g := (mkF m 4 #[.val (.ref a0)] [(.ref b)])) rfl rfl (hb hby d12_4) _ k) ?_
  refine go (T' := T1) (f' := (mkF m 6 #[.val (.ref a0)] [(.ref a0), (.int n)])) (by intro t k; exact XS.aloadN X1.here hx rfl (hb hby d12_5) rfl rfl k) ?_
  obtain ⟨cq2, kq2, q2a, q2b, q2c⟩ := isOf hZ e1 E_a0
  obtain ⟨_, _, ⟨T2, Lz2, kz2, nz2⟩, -, X2, ⟨Lc2, hQ2, lz2, yz2, zz2⟩, st2⟩ := X1.virtualBack hx (y := (⟨"java/lang/String", "coder", "()B"⟩ : MethodName)) (z := (⟨"java/lang/String", "coder", "()B"⟩ : MethodName)) hown (mvT hZ (hw _ (List.mem_of_getElem? (i := 66) rfl))) (mvT hZ (hw _ (List.mem_of_getElem? (i := 67) rfl))) (notFace_of_selects (args := #[]) (mvT hZ (hw _ (List.mem_of_getElem? (i := 69) rfl)))) (mvT hZ (hw _ (List.mem_of_getElem? (i := 69) rfl))) (mvT hZ (hw _ (List.mem_of_getElem? (i := 68) rfl))) (by decide) (backOf (W := 1) (rm13 l Z aw hw [] a0 cs h0 n0 Z0 O0 S_cs hcs E_a0 F_c) hZ (hw _ (List.mem_of_getElem? (i := 70) rfl)) (hw _ (List.mem_of_getElem? (i := 10) rfl)) (by decide) (by decide)) q2a q2c (g := (mkF m 6 #[.val (.ref a0)] [(.ref a0), (.int n)])) rfl (by rw [hml]; rfl) (Steps.refl _) (argsL := []) (rest := [(.int n)]) (lenOf pd_2829B rfl) rfl (by show 2 * 0 + _ ≤ _; exact Nat.le_of_eq rfl) (hb hby d12_6) (fun _ _ => ⟨rfl, e1, (by decide : 0 + 0 ≤ _), (by decide : 0 + 0 ≤ _)⟩)
  dsimp only [Pt.U, Pt.locs, Pt.cells, Pt.slots] at X2 lz2 yz2 zz2 st2 hQ2
  subst lz2 yz2 zz2
  obtain ⟨rfl, N2q, e2⟩ := hQ2
  have N2 := Fr.app N0 N2q
  refine go (fun _ k => st2.trans k) ?_
  show Run _ _ _ _ _ _ _ T2 (mkF m 9 #[.val (.ref a0)] [(.int (0 : Int32)), (.int n)])
  refine go (T' := T2) (f' := (mkF m 10 #[.val (.ref a0)] [(.int ((n >>> ((0 : Int32) &&& 31))))])) (by intro t k; exact XS.ishr X2.here hx rfl (hb hby d12_9) rfl k) ?_
  refine retW X2 hx (t := .int) Bd.returns rfl (Or.inl ⟨rfl, Or.inl rfl, _, rfl⟩) (hb hby d12_10) hlk (by decide) (by decide) ?_
  show Q12 Z a0 cs b vs n h0 n0 _ T2.heap _
  rw [e2]
  have hv' : ((n >>> ((0 : Int32) &&& 31))) = n := by
    exact own_shr0 n
  have hv : (some (.int ((n >>> ((0 : Int32) &&& 31)))) : Option Value) = some (.int n) := congrArg (fun z => (some (.int z) : Option Value)) hv'
  exact ⟨hv, N2, rfl⟩
theorem d18_0 : decode jdk_41_method_11_code 0 = .ok (.iload_n 0, 1) := by decide +kernel
theorem d18_1 : decode jdk_41_method_11_code 1 = .ok (.ifCond .lt 8, 3) := by decide +kernel
theorem d18_4 : decode jdk_41_method_11_code 4 = .ok (.iload_n 0, 1) := by decide +kernel
theorem d18_5 : decode jdk_41_method_11_code 5 = .ok (.iload_n 1, 1) := by decide +kernel
theorem d18_6 : decode jdk_41_method_11_code 6 = .ok (.if_icmp .lt 10, 3) := by decide +kernel
theorem d18_16 : decode jdk_41_method_11_code 16 = .ok (.iload_n 0, 1) := by decide +kernel
theorem d18_17 : decode jdk_41_method_11_code 17 = .ok (.ireturn, 1) := by decide +kernel
theorem pn_18 : plainName "jdk/internal/util/Preconditions" = true := by first | (simp [plainName, overriddenIn]; done) | decide +kernel
theorem ef_18 (m : MethodId) (x0 : Int32) (x1 : Int32) (x2 : Addr) : entryFrame m #[(.int x0), (.int x1), (.ref x2)] 3 = mkF m 0 #[.val (.int x0), .val (.int x1), .val (.ref x2)] [] := by first | (simp [entryFrame, mkF, argsToLocals, Value.category]; done) | rfl
def Q18 (Z : State) (p0 : Int32) (p1 : Int32) (a2 : Addr) (h0 : Heap) (n0 : Nat) (v : Option Value) (h : Heap) (L : List Loc) : Prop := v = some (.int p0) ∧ Fr n0 L ∧ h = h0
set_option maxRecDepth 65536 in
set_option maxHeartbeats 40000000 in
theorem rm18 (l : Launch) (Z : State) (aw : Array Value) (hw : ∀ d ∈ tables_1, d.before aw Z = true) (ws : List Jvm.Cond) (p0 : Int32) (p1 : Int32) (a2 : Addr) (h0 : Heap) (n0 : Nat) (Z0 : n0 ≤ h0.size) (h0p : ¬ (p0 < (0 : Int32))) (hlt : p0 < p1) :
    MetFree l (⟨"jdk/internal/util/Preconditions", "checkIndex", "(IILjava/util/function/BiFunction;)I"⟩ : MethodName) (head1 (Jvm.Cond.code (⟨"jdk/internal/util/Preconditions", "checkIndex", "(IILjava/util/function/BiFunction;)I"⟩ : MethodName) jdk_41_method_11_code 3 (some .int) :: ws) ({ frames := 0, cells := 0, slots := 0, locals := 0 } : Room)) (fun a U => a = #[(.int p0), (.int p1), (.ref a2)] ∧ Z.Warmed39 U.vm ∧ U.heap = h0) (fun _ _ _ _ _ => True) (fun _ U o U' => ∃ v L, o = .returned v ∧ Q18 Z p0 p1 a2 h0 n0 v U'.heap L ∧ FrameEnd U o U' L ({ frames := 0, cells := 0, slots := 0, locals := 0 } : Room).cells ({ frames := 0, cells := 0, slots := 0, locals := 0 } : Room).slots) := by
  refine MetFree.of_bodySF (plainFor_of_name pn_18) hisR ?_
  intro p e s m args below meth c s₁ Bd hml0 hP hK
  obtain ⟨rfl, hZ, hh⟩ := hP
  have hx := Bd.exec
  have hby := Bd.bytes
  have hml : c.maxLocals = 3 := hml0
  have hown : s.vm.findClass "jdk/internal/util/Preconditions" = some m.cls := findClass_of_methodNamed Bd.named
  have hnm := (name_of_methodNamed Bd.named Bd.method).1
  have hlk : meth.locks = false := BodyLoose.notSynchronized Bd
  have X0 : Stand p l e ({ frames := 0, cells := 0, slots := 0, locals := 0 } : Room) s m #[(.int p0), (.int p1), (.ref a2)] below meth c s₁ [] 0 0 := Stand.of_body Bd
  have e0 : s₁.heap = h0 := by rw [← hh, Bd.state]; rfl
  have N0 := Fr.nil n0
  show Run p e s below (Q18 Z p0 p1 a2 h0 n0) ({ frames := 0, cells := 0, slots := 0, locals := 0 } : Room).cells ({ frames := 0, cells := 0, slots := 0, locals := 0 } : Room).slots s₁ (entryFrame m #[(.int p0), (.int p1), (.ref a2)] 3)
  rw [ef_18]
  show Run _ _ _ _ _ _ _ s₁ (mkF m 0 #[.val (.int p0), .val (.int p1), .val (.ref a2)] [])
  refine go (T' := s₁) (f' := (mkF m 1 #[.val (.int p0), .val (.int p1), .val (.ref a2)] [(.int p0)])) (by intro t k; exact XS.iloadN X0.here hx rfl (hb hby d18_0) rfl k) ?_
  refine go (T' := s₁) (f' := (mkF m 4 #[.val (.int p0), .val (.int p1), .val (.ref a2)] [])) (by intro t k; exact XS.ifNo X0.here hx rfl (hb hby d18_1) rfl ((if0 _ _).trans (flt (h0p : ¬ (p0 < (0 : Int32)))).1) k) ?_
  refine go (T' := s₁) (f' := (mkF m 5 #[.val (.int p0), .val (.int p1), .val (.ref a2)] [(.int p0)])) (by intro t k; exact XS.iloadN X0.here hx rfl (hb hby d18_4) rfl k) ?_
  refine go (T' := s₁) (f' := (mkF m 6 #[.val (.int p0), .val (.int p1), .val (.ref a2)] [(.int p1), (.int p0)])) (by intro t k; exact XS.iloadN X0.here hx rfl (hb hby d18_5) rfl k) ?_
  refine go (T' := s₁) (f' := (mkF m 16 #[.val (.int p0), .val (.int p1), .val (.ref a2)] [])) (by intro t k; exact XS.icmpYes X0.here hx rfl (pc0 := 6) (pc' := 16) rfl (hb hby d18_6) rfl (tlt (hlt : p0 < p1)).1 (by decide) (by decide) k) ?_
  refine go (T' := s₁) (f' := (mkF m 17 #[.val (.int p0), .val (.int p1), .val (.ref a2)] [(.int p0)])) (by intro t k; exact XS.iloadN X0.here hx rfl (hb hby d18_16) rfl k) ?_
  refine retW X0 hx (t := .int) Bd.returns rfl (Or.inl ⟨rfl, Or.inl rfl, _, rfl⟩) (hb hby d18_17) hlk (by decide) (by decide) ?_
  show Q18 Z p0 p1 a2 h0 n0 _ s₁.heap _
  rw [e0]
  have hv : (some (.int p0) : Option Value) = some (.int p0) := rfl
  exact ⟨hv, N0, rfl⟩
theorem ef_18n (m : MethodId) (x0 : Int32) (x1 : Int32) : entryFrame m #[(.int x0), (.int x1), .null] 3 = mkF m 0 #[.val (.int x0), .val (.int x1), .val .null] [] := by first | (simp [entryFrame, mkF, argsToLocals, Value.category]; done) | rfl
def Q18n (Z : State) (p0 : Int32) (p1 : Int32) (h0 : Heap) (n0 : Nat) (v : Option Value) (h : Heap) (L : List Loc) : Prop := v = some (.int p0) ∧ Fr n0 L ∧ h = h0
set_option maxRecDepth 65536 in
set_option maxHeartbeats 40000000 in
theorem rm18n (l : Launch) (Z : State) (aw : Array Value) (hw : ∀ d ∈ tables_1, d.before aw Z = true) (ws : List Jvm.Cond) (p0 : Int32) (p1 : Int32) (h0 : Heap) (n0 : Nat) (Z0 : n0 ≤ h0.size) (h0p : ¬ (p0 < (0 : Int32))) (hlt : p0 < p1) :
    MetFree l (⟨"jdk/internal/util/Preconditions", "checkIndex", "(IILjava/util/function/BiFunction;)I"⟩ : MethodName) (head1 (Jvm.Cond.code (⟨"jdk/internal/util/Preconditions", "checkIndex", "(IILjava/util/function/BiFunction;)I"⟩ : MethodName) jdk_41_method_11_code 3 (some .int) :: ws) ({ frames := 0, cells := 0, slots := 0, locals := 0 } : Room)) (fun a U => a = #[(.int p0), (.int p1), .null] ∧ Z.Warmed39 U.vm ∧ U.heap = h0) (fun _ _ _ _ _ => True) (fun _ U o U' => ∃ v L, o = .returned v ∧ Q18n Z p0 p1 h0 n0 v U'.heap L ∧ FrameEnd U o U' L ({ frames := 0, cells := 0, slots := 0, locals := 0 } : Room).cells ({ frames := 0, cells := 0, slots := 0, locals := 0 } : Room).slots) := by
  refine MetFree.of_bodySF (plainFor_of_name pn_18) hisR ?_
  intro p e s m args below meth c s₁ Bd hml0 hP hK
  obtain ⟨rfl, hZ, hh⟩ := hP
  have hx := Bd.exec
  have hby := Bd.bytes
  have hml : c.maxLocals = 3 := hml0
  have hown : s.vm.findClass "jdk/internal/util/Preconditions" = some m.cls := findClass_of_methodNamed Bd.named
  have hnm := (name_of_methodNamed Bd.named Bd.method).1
  have hlk : meth.locks = false := BodyLoose.notSynchronized Bd
  have X0 : Stand p l e ({ frames := 0, cells := 0, slots := 0, locals := 0 } : Room) s m #[(.int p0), (.int p1), .null] below meth c s₁ [] 0 0 := Stand.of_body Bd
  have e0 : s₁.heap = h0 := by rw [← hh, Bd.state]; rfl
  have N0 := Fr.nil n0
  show Run p e s below (Q18n Z p0 p1 h0 n0) ({ frames := 0, cells := 0, slots := 0, locals := 0 } : Room).cells ({ frames := 0, cells := 0, slots := 0, locals := 0 } : Room).slots s₁ (entryFrame m #[(.int p0), (.int p1), .null] 3)
  rw [ef_18n]
  show Run _ _ _ _ _ _ _ s₁ (mkF m 0 #[.val (.int p0), .val (.int p1), .val .null] [])
  refine go (T' := s₁) (f' := (mkF m 1 #[.val (.int p0), .val (.int p1), .val .null] [(.int p0)])) (by intro t k; exact XS.iloadN X0.here hx rfl (hb hby d18_0) rfl k) ?_
  refine go (T' := s₁) (f' := (mkF m 4 #[.val (.int p0), .val (.int p1), .val .null] [])) (by intro t k; exact XS.ifNo X0.here hx rfl (hb hby d18_1) rfl ((if0 _ _).trans (flt (h0p : ¬ (p0 < (0 : Int32)))).1) k) ?_
  refine go (T' := s₁) (f' := (mkF m 5 #[.val (.int p0), .val (.int p1), .val .null] [(.int p0)])) (by intro t k; exact XS.iloadN X0.here hx rfl (hb hby d18_4) rfl k) ?_
  refine go (T' := s₁) (f' := (mkF m 6 #[.val (.int p0), .val (.int p1), .val .null] [(.int p1), (.int p0)])) (by intro t k; exact XS.iloadN X0.here hx rfl (hb hby d18_5) rfl k) ?_
  refine go (T' := s₁) (f' := (mkF m 16 #[.val (.int p0), .val (.int p1), .val .null] [])) (by intro t k; exact XS.icmpYes X0.here hx rfl (pc0 := 6) (pc' := 16) rfl (hb hby d18_6) rfl (tlt (hlt : p0 < p1)).1 (by decide) (by decide) k) ?_
  refine go (T' := s₁) (f' := (mkF m 17 #[.val (.int p0), .val (.int p1), .val .null] [(.int p0)])) (by intro t k; exact XS.iloadN X0.here hx rfl (hb hby d18_16) rfl k) ?_
  refine retW X0 hx (t := .int) Bd.returns rfl (Or.inl ⟨rfl, Or.inl rfl, _, rfl⟩) (hb hby d18_17) hlk (by decide) (by decide) ?_
  show Q18n Z p0 p1 h0 n0 _ s₁.heap _
  rw [e0]
  have hv : (some (.int p0) : Option Value) = some (.int p0) := rfl
  exact ⟨hv, N0, rfl⟩
theorem d17_0 : decode jdk_42_method_155_code 0 = .ok (.iload_n 0, 1) := by decide +kernel
theorem d17_1 : decode jdk_42_method_155_code 1 = .ok (.iload_n 1, 1) := by decide +kernel
theorem d17_2 : decode jdk_42_method_155_code 2 = .ok (.getstatic 1053, 3) := by decide +kernel
theorem d17_5 : decode jdk_42_method_155_code 5 = .ok (.invokestatic 1059, 3) := by decide +kernel
theorem d17_8 : decode jdk_42_method_155_code 8 = .ok (.pop, 1) := by decide +kernel
theorem d17_9 : decode jdk_42_method_155_code 9 = .ok (.return_, 1) := by decide +kernel
theorem pd_28IILjava2futil2ffunction2fBiFunction3b29I : parseMethodDescriptor "(IILjava/util/function/BiFunction;)I" = some ⟨[.int, .int, (.object "java/util/function/BiFunction")], some .int⟩ := by decide +kernel
theorem ef_17 (m : MethodId) (x0 : Int32) (x1 : Int32) : entryFrame m #[(.int x0), (.int x1)] 2 = mkF m 0 #[.val (.int x0), .val (.int x1)] [] := by first | (simp [entryFrame, mkF, argsToLocals, Value.category]; done) | rfl
def Q17 (Z : State) (p0 : Int32) (p1 : Int32) (wf : Value) (h0 : Heap) (n0 : Nat) (v : Option Value) (h : Heap) (L : List Loc) : Prop := v = none ∧ Fr n0 L ∧ h = h0
set_option maxRecDepth 65536 in
set_option maxHeartbeats 40000000 in
theorem rm17 (l : Launch) (Z : State) (aw : Array Value) (hw : ∀ d ∈ tables_1, d.before aw Z = true) (ws : List Jvm.Cond) (p0 : Int32) (p1 : Int32) (wf : Value) (h0 : Heap) (n0 : Nat) (Z0 : n0 ≤ h0.size) (O0 : Old Z n0 h0) (S_sf : Sta Z Z.heap "jdk/internal/util/Preconditions" "SIOOBE_FORMATTER" "Ljava/util/function/BiFunction;" wf) (hwf : wf.isRef = true) (h0p : ¬ (p0 < (0 : Int32))) (hlt : p0 < p1) :
    MetFree l (⟨"java/lang/String", "checkIndex", "(II)V"⟩ : MethodName) (head1 (Jvm.Cond.code (⟨"java/lang/String", "checkIndex", "(II)V"⟩ : MethodName) jdk_42_method_155_code 2 none :: ws) ({ frames := 1, cells := 0, slots := 0, locals := 14 } : Room)) (fun a U => a = #[(.int p0), (.int p1)] ∧ Z.Warmed39 U.vm ∧ U.heap = h0) (fun _ _ _ _ _ => True) (fun _ U o U' => ∃ v L, o = .returned v ∧ Q17 Z p0 p1 wf h0 n0 v U'.heap L ∧ FrameEnd U o U' L ({ frames := 1, cells := 0, slots := 0, locals := 14 } : Room).cells ({ frames := 1, cells := 0, slots := 0, locals := 14 } : Room).slots) := by
  refine MetFree.of_bodySF (plainFor_of_name pn_13) hisR ?_
  intro p e s m args below meth c s₁ Bd hml0 hP hK
  obtain ⟨rfl, hZ, hh⟩ := hP
  have hx := Bd.exec
  have hby := Bd.bytes
  have hml : c.maxLocals = 2 := hml0
  have hown : s.vm.findClass "java/lang/String" = some m.cls := findClass_of_methodNamed Bd.named
  have hnm := (name_of_methodNamed Bd.named Bd.method).1
  have hlk : meth.locks = false := BodyLoose.notSynchronized Bd
  have X0 : Stand p l e ({ frames := 1, cells := 0, slots := 0, locals := 14 } : Room) s m #[(.int p0), (.int p1)] below meth c s₁ [] 0 0 := Stand.of_body Bd
  have e0 : s₁.heap = h0 := by rw [← hh, Bd.state]; rfl
  have N0 := Fr.nil n0
  show Run p e s below (Q17 Z p0 p1 wf h0 n0) ({ frames := 1, cells := 0, slots := 0, locals := 14 } : Room).cells ({ frames := 1, cells := 0, slots := 0, locals := 14 } : Room).slots s₁ (entryFrame m #[(.int p0), (.int p1)] 2)
  rw [ef_17]
  show Run _ _ _ _ _ _ _ s₁ (mkF m 0 #[.val (.int p0), .val (.int p1)] [])
  refine go (T' := s₁) (f' := (mkF m 1 #[.val (.int p0), .val (.int p1)] [(.int p0)])) (by intro t k; exact XS.iloadN X0.here hx rfl (hb hby d17_0) rfl k) ?_
  refine go (T' := s₁) (f' := (mkF m 2 #[.val (.int p0), .val (.int p1)] [(.int p1), (.int p0)])) (by intro t k; exact XS.iloadN X0.here hx rfl (hb hby d17_1) rfl k) ?_
  obtain ⟨T1, X1, e1, st1⟩ := getS2 X0 hx hZ hown (host := "") (Or.inl (hw _ (List.mem_of_getElem? (i := 88) rfl))) Via.refl e0 (S_sf.ext O0.2) (g := (mkF m 2 #[.val (.int p0), .val (.int p1)] [(.int p1), (.int p0)])) rfl (hb hby d17_2)
  refine go st1 ?_
  rcases ref_cases hwf with rfl | ⟨w9, rfl⟩
  · skip
    show Run _ _ _ _ _ _ _ T1 (mkF m 5 #[.val (.int p0), .val (.int p1)] [.null, (.int p1), (.int p0)])
    obtain ⟨_, _, ⟨T2, Lz2, kz2, nz2⟩, -, X2, ⟨Lc2, hQ2, lz2, yz2, zz2⟩, st2⟩ := Jvm.LawKit.callS X1 hx (y := (⟨"jdk/internal/util/Preconditions", "checkIndex", "(IILjava/util/function/BiFunction;)I"⟩ : MethodName)) hown (mvT hZ (hw _ (List.mem_of_getElem? (i := 90) rfl))) (mvT hZ (hw _ (List.mem_of_getElem? (i := 91) rfl))) (mvT hZ (hw _ (List.mem_of_getElem? (i := 89) rfl))) (mvT hZ (hw _ (List.mem_of_getElem? (i := 92) rfl))) (by decide) (backOf (W := 0) (rm18n l Z aw hw [] p0 p1  h0 n0 Z0 h0p hlt) hZ (hw _ (List.mem_of_getElem? (i := 92) rfl)) (hw _ (List.mem_of_getElem? (i := 89) rfl)) (by decide) (by decide)) (g := (mkF m 5 #[.val (.int p0), .val (.int p1)] [.null, (.int p1), (.int p0)])) rfl (by rw [hml]; rfl) (argsL := [(.int p0), (.int p1), .null]) (rest := []) (lenOf pd_28IILjava2futil2ffunction2fBiFunction3b29I rfl) rfl (by show 2 * 0 + _ ≤ _; exact Nat.le_of_eq rfl) (hb hby d17_5) (fun _ _ => ⟨rfl, e1, (by decide : 0 + 0 ≤ _), (by decide : 0 + 0 ≤ _)⟩)
    dsimp only [Pt.U, Pt.locs, Pt.cells, Pt.slots] at X2 lz2 yz2 zz2 st2 hQ2
    subst lz2 yz2 zz2
    obtain ⟨rfl, N2q, e2⟩ := hQ2
    have N2 := Fr.app N0 N2q
    refine go st2 ?_
    show Run _ _ _ _ _ _ _ T2 (mkF m 8 #[.val (.int p0), .val (.int p1)] [(.int p0)])
    refine go (T' := T2) (f' := (mkF m 9 #[.val (.int p0), .val (.int p1)] [])) (by intro t k; exact XS.pop X2.here hx rfl (hb hby d17_8) rfl rfl k) ?_
    refine retV X2 hx Bd.returns (hb hby d17_9) hlk (by decide) (by decide) ?_
    show Q17 Z p0 p1 .null h0 n0 _ T2.heap _
    rw [e2]
    exact ⟨rfl, N2, rfl⟩
  · skip
    show Run _ _ _ _ _ _ _ T1 (mkF m 5 #[.val (.int p0), .val (.int p1)] [(.ref w9), (.int p1), (.int p0)])
    obtain ⟨_, _, ⟨T3, Lz3, kz3, nz3⟩, -, X3, ⟨Lc3, hQ3, lz3, yz3, zz3⟩, st3⟩ := Jvm.LawKit.callS X1 hx (y := (⟨"jdk/internal/util/Preconditions", "checkIndex", "(IILjava/util/function/BiFunction;)I"⟩ : MethodName)) hown (mvT hZ (hw _ (List.mem_of_getElem? (i := 90) rfl))) (mvT hZ (hw _ (List.mem_of_getElem? (i := 91) rfl))) (mvT hZ (hw _ (List.mem_of_getElem? (i := 89) rfl))) (mvT hZ (hw _ (List.mem_of_getElem? (i := 92) rfl))) (by decide) (backOf (W := 0) (rm18 l Z aw hw [] p0 p1 w9  h0 n0 Z0 h0p hlt) hZ (hw _ (List.mem_of_getElem? (i := 92) rfl)) (hw _ (List.mem_of_getElem? (i := 89) rfl)) (by decide) (by decide)) (g := (mkF m 5 #[.val (.int p0), .val (.int p1)] [(.ref w9), (.int p1), (.int p0)])) rfl (by rw [hml]; rfl) (argsL := [(.int p0), (.int p1), (.ref w9)]) (rest := []) (lenOf pd_28IILjava2futil2ffunction2fBiFunction3b29I rfl) rfl (by show 2 * 0 + _ ≤ _; exact Nat.le_of_eq rfl) (hb hby d17_5) (fun _ _ => ⟨rfl, e1, (by decide : 0 + 0 ≤ _), (by decide : 0 + 0 ≤ _)⟩)
    dsimp only [Pt.U, Pt.locs, Pt.cells, Pt.slots] at X3 lz3 yz3 zz3 st3 hQ3
    subst lz3 yz3 zz3
    obtain ⟨rfl, N3q, e3⟩ := hQ3
    have N3 := Fr.app N0 N3q
    refine go st3 ?_
    show Run _ _ _ _ _ _ _ T3 (mkF m 8 #[.val (.int p0), .val (.int p1)] [(.int p0)])
    refine go (T' := T3) (f' := (mkF m 9 #[.val (.int p0), .val (.int p1)] [])) (by intro t k; exact XS.pop X3.here hx rfl (hb hby d17_8) rfl rfl k) ?_
    refine retV X3 hx Bd.returns (hb hby d17_9) hlk (by decide) (by decide) ?_
    show Q17 Z p0 p1 (.ref w9) h0 n0 _ T3.heap _
    rw [e3]
    exact ⟨rfl, N3, rfl⟩
theorem d16_0 : decode jdk_43_method_2_code 0 = .ok (.iload_n 1, 1) := by decide +kernel
theorem d16_1 : decode jdk_43_method_2_code 1 = .ok (.aload_n 0, 1) := by decide +kernel
theorem d16_2 : decode jdk_43_method_2_code 2 = .ok (.arraylength, 1) := by decide +kernel
theorem d16_3 : decode jdk_43_method_2_code 3 = .ok (.invokestatic 9, 3) := by decide +kernel
theorem d16_6 : decode jdk_43_method_2_code 6 = .ok (.aload_n 0, 1) := by decide +kernel
theorem d16_7 : decode jdk_43_method_2_code 7 = .ok (.iload_n 1, 1) := by decide +kernel
theorem d16_8 : decode jdk_43_method_2_code 8 = .ok (.baload, 1) := by decide +kernel
theorem d16_9 : decode jdk_43_method_2_code 9 = .ok (.sipush 255, 3) := by decide +kernel
theorem d16_12 : decode jdk_43_method_2_code 12 = .ok (.iand, 1) := by decide +kernel
theorem d16_13 : decode jdk_43_method_2_code 13 = .ok (.i2c, 1) := by decide +kernel
theorem d16_14 : decode jdk_43_method_2_code 14 = .ok (.ireturn, 1) := by decide +kernel
theorem pd_28II29V : parseMethodDescriptor "(II)V" = some ⟨[.int, .int], none⟩ := by decide +kernel
theorem pn_16 : plainName "java/lang/StringLatin1" = true := by first | (simp [plainName, overriddenIn]; done) | decide +kernel
theorem ef_16 (m : MethodId) (x0 : Addr) (x1 : Int32) : entryFrame m #[(.ref x0), (.int x1)] 2 = mkF m 0 #[.val (.ref x0), .val (.int x1)] [] := by first | (simp [entryFrame, mkF, argsToLocals, Value.category]; done) | rfl
def Q16 (Z : State) (a0 : Addr) (p1 : Int32) (wf : Value) (vs : List Value) (n x : Int32) (h0 : Heap) (n0 : Nat) (v : Option Value) (h : Heap) (L : List Loc) : Prop := v = some (.int (nar .char (((x &&& (255 : Int32))).toUInt32.toUInt16.toUInt32.toInt32))) ∧ Fr n0 L ∧ h = h0
set_option maxRecDepth 65536 in
set_option maxHeartbeats 40000000 in
theorem rm16 (l : Launch) (Z : State) (aw : Array Value) (hw : ∀ d ∈ tables_1, d.before aw Z = true) (ws : List Jvm.Cond) (a0 : Addr) (p1 : Int32) (wf : Value) (vs : List Value) (n x : Int32) (h0 : Heap) (n0 : Nat) (Z0 : n0 ≤ h0.size) (O0 : Old Z n0 h0) (S_sf : Sta Z Z.heap "jdk/internal/util/Preconditions" "SIOOBE_FORMATTER" "Ljava/util/function/BiFunction;" wf) (hwf : wf.isRef = true) (A_a0 : Ary Z h0 a0 .byte vs) (hlen : vs.length.toInt32 = n) (h0p : ¬ (p1 < (0 : Int32))) (hlt : p1 < n) (hget : vs[p1.toNatClampNeg]? = some (.int x)) :
    MetFree l (⟨"java/lang/StringLatin1", "charAt", "([BI)C"⟩ : MethodName) (head1 (Jvm.Cond.code (⟨"java/lang/StringLatin1", "charAt", "([BI)C"⟩ : MethodName) jdk_43_method_2_code 2 (some .char) :: ws) ({ frames := 2, cells := 0, slots := 0, locals := 27 } : Room)) (fun a U => a = #[(.ref a0), (.int p1)] ∧ Z.Warmed39 U.vm ∧ U.heap = h0) (fun _ _ _ _ _ => True) (fun _ U o U' => ∃ v L, o = .returned v ∧ Q16 Z a0 p1 wf vs n x h0 n0 v U'.heap L ∧ FrameEnd U o U' L ({ frames := 2, cells := 0, slots := 0, locals := 27 } : Room).cells ({ frames := 2, cells := 0, slots := 0, locals := 27 } : Room).slots) := by
  refine MetFree.of_bodySF (plainFor_of_name pn_16) hisR ?_
  intro p e s m args below meth c s₁ Bd hml0 hP hK
  obtain ⟨rfl, hZ, hh⟩ := hP
  have hx := Bd.exec
  have hby := Bd.bytes
  have hml : c.maxLocals = 2 := hml0
  have hown : s.vm.findClass "java/lang/StringLatin1" = some m.cls := findClass_of_methodNamed Bd.named
  have hnm := (name_of_methodNamed Bd.named Bd.method).1
  have hlk : meth.locks = false := BodyLoose.notSynchronized Bd
  have X0 : Stand p l e ({ frames := 2, cells := 0, slots := 0, locals := 27 } : Room) s m #[(.ref a0), (.int p1)] below meth c s₁ [] 0 0 := Stand.of_body Bd
  have e0 : s₁.heap = h0 := by rw [← hh, Bd.state]; rfl
  have N0 := Fr.nil n0
  show Run p e s below (Q16 Z a0 p1 wf vs n x h0 n0) ({ frames := 2, cells := 0, slots := 0, locals := 27 } : Room).cells ({ frames := 2, cells := 0, slots := 0, locals := 27 } : Room).slots s₁ (entryFrame m #[(.ref a0), (.int p1)] 2)
  rw [ef_16]
  show Run _ _ _ _ _ _ _ s₁ (mkF m 0 #[.val (.ref a0), .val (.int p1)] [])
  refine go (T' := s₁) (f' := (mkF m 1 #[.val (.ref a0), .val (.int p1)] [(.int p1)])) (by intro t k; exact XS.iloadN X0.here hx rfl (hb hby d16_0) rfl k) ?_
  refine go (T' := s₁) (f' := (mkF m 2 #[.val (.ref a0), .val (.int p1)] [(.ref a0), (.int p1)])) (by intro t k; exact XS.aloadN X0.here hx rfl (hb hby d16_1) rfl rfl k) ?_
  refine go (T' := s₁) (f' := (mkF m 3 #[.val (.ref a0), .val (.int p1)] [(.int n), (.int p1)])) (by intro t k; exact alen X0 hx hZ e0 A_a0 (z := n) hlen (g := (mkF m 2 #[.val (.ref a0), .val (.int p1)] [(.ref a0), (.int p1)])) rfl rfl (hb hby d16_2) _ k) ?_
  obtain ⟨_, _, ⟨T1, Lz1, kz1, nz1⟩, -, X1, ⟨Lc1, hQ1, lz1, yz1, zz1⟩, st1⟩ := Jvm.LawKit.callS X0 hx (y := (⟨"java/lang/String", "checkIndex", "(II)V"⟩ : MethodName)) hown (mvT hZ (hw _ (List.mem_of_getElem? (i := 85) rfl))) (mvT hZ (hw _ (List.mem_of_getElem? (i := 86) rfl))) (mvT hZ (hw _ (List.mem_of_getElem? (i := 10) rfl))) (mvT hZ (hw _ (List.mem_of_getElem? (i := 87) rfl))) (by decide) (backOf (W := 0) (rm17 l Z aw hw [] p1 n wf h0 n0 Z0 O0 S_sf hwf h0p hlt) hZ (hw _ (List.mem_of_getElem? (i := 87) rfl)) (hw _ (List.mem_of_getElem? (i := 10) rfl)) (by decide) (by decide)) (g := (mkF m 3 #[.val (.ref a0), .val (.int p1)] [(.int n), (.int p1)])) rfl (by rw [hml]; rfl) (argsL := [(.int p1), (.int n)]) (rest := []) (lenOf pd_28II29V rfl) rfl (by show 2 * 0 + _ ≤ _; exact Nat.le_of_eq rfl) (hb hby d16_3) (fun _ _ => ⟨rfl, e0, (by decide : 0 + 0 ≤ _), (by decide : 0 + 0 ≤ _)⟩)
  dsimp only [Pt.U, Pt.locs, Pt.cells, Pt.slots] at X1 lz1 yz1 zz1 st1 hQ1
  subst lz1 yz1 zz1
  obtain ⟨rfl, N1q, e1⟩ := hQ1
  have N1 := Fr.app N0 N1q
  refine go st1 ?_
  show Run _ _ _ _ _ _ _ T1 (mkF m 6 #[.val (.ref a0), .val (.int p1)] [])
  refine go (T' := T1) (f' := (mkF m 7 #[.val (.ref a0), .val (.int p1)] [(.ref a0)])) (by intro t k; exact XS.aloadN X1.here hx rfl (hb hby d16_6) rfl rfl k) ?_
  refine go (T' := T1) (f' := (mkF m 8 #[.val (.ref a0), .val (.int p1)] [(.int p1), (.ref a0)])) (by intro t k; exact XS.iloadN X1.here hx rfl (hb hby d16_7) rfl k) ?_
  refine go (T' := T1) (f' := (mkF m 9 #[.val (.ref a0), .val (.int p1)] [(.int x)])) (by intro t k; exact ldB X1 hx hZ e1 A_a0 (j := p1) (v := (.int x)) h0p hget (g := (mkF m 8 #[.val (.ref a0), .val (.int p1)] [(.int p1), (.ref a0)])) rfl rfl (hb hby d16_8) _ k) ?_
  refine go (T' := T1) (f' := (mkF m 12 #[.val (.ref a0), .val (.int p1)] [(.int (255 : Int32)), (.int x)])) (by intro t k; exact XS.sipush X1.here hx rfl (hb hby d16_9) k) ?_
  refine go (T' := T1) (f' := (mkF m 13 #[.val (.ref a0), .val (.int p1)] [(.int (x &&& (255 : Int32)))])) (by intro t k; exact XS.iand X1.here hx rfl (hb hby d16_12) rfl k) ?_
  refine go (T' := T1) (f' := (mkF m 14 #[.val (.ref a0), .val (.int p1)] [(.int (((x &&& (255 : Int32))).toUInt32.toUInt16.toUInt32.toInt32))])) (by intro t k; exact XS.i2c X1.here hx rfl (hb hby d16_13) rfl k) ?_
  refine retZ X1 hx (t := .char) Bd.returns (by simp) (hb hby d16_14) hlk (by decide) (by decide) ?_
  show Q16 Z a0 p1 wf vs n x h0 n0 _ T1.heap _
  rw [e1]
  have hv : (some (.int (nar .char (((x &&& (255 : Int32))).toUInt32.toUInt16.toUInt32.toInt32))) : Option Value) = some (.int (nar .char (((x &&& (255 : Int32))).toUInt32.toUInt16.toUInt32.toInt32))) := rfl
  exact ⟨hv, N1, rfl⟩
theorem own_nar2 (y : Int32) : nar .char (nar .char y) = nar .char y := by
  simp only [nar, UInt32.toUInt32_toInt32, UInt16.toUInt16_toUInt32]
theorem d14_0 : decode jdk_42_method_56_code 0 = .ok (.aload_n 0, 1) := by decide +kernel
theorem d14_1 : decode jdk_42_method_56_code 1 = .ok (.invokevirtual 492, 3) := by decide +kernel
theorem d14_4 : decode jdk_42_method_56_code 4 = .ok (.ifCond .eq 12, 3) := by decide +kernel
theorem d14_7 : decode jdk_42_method_56_code 7 = .ok (.aload_n 0, 1) := by decide +kernel
theorem d14_8 : decode jdk_42_method_56_code 8 = .ok (.getfield 9, 3) := by decide +kernel
theorem d14_11 : decode jdk_42_method_56_code 11 = .ok (.iload_n 1, 1) := by decide +kernel
theorem d14_12 : decode jdk_42_method_56_code 12 = .ok (.invokestatic 495, 3) := by decide +kernel
theorem d14_15 : decode jdk_42_method_56_code 15 = .ok (.ireturn, 1) := by decide +kernel
theorem pd_2829Z : parseMethodDescriptor "()Z" = some ⟨[], some .boolean⟩ := by decide +kernel
theorem pd_285bBI29C : parseMethodDescriptor "([BI)C" = some ⟨[(.array .byte), .int], some .char⟩ := by decide +kernel
theorem ef_14 (m : MethodId) (x0 : Addr) (x1 : Int32) : entryFrame m #[(.ref x0), (.int x1)] 2 = mkF m 0 #[.val (.ref x0), .val (.int x1)] [] := by first | (simp [entryFrame, mkF, argsToLocals, Value.category]; done) | rfl
def Q14 (Z : State) (a0 : Addr) (p1 : Int32) (cs : Int32) (wf : Value) (b : Addr) (vs : List Value) (n x y : Int32) (h0 : Heap) (n0 : Nat) (v : Option Value) (h : Heap) (L : List Loc) : Prop := v = some (.int y) ∧ Fr n0 L ∧ h = h0
set_option maxRecDepth 65536 in
set_option maxHeartbeats 40000000 in
theorem rm14 (l : Launch) (Z : State) (aw : Array Value) (hw : ∀ d ∈ tables_1, d.before aw Z = true) (ws : List Jvm.Cond) (a0 : Addr) (p1 : Int32) (cs : Int32) (wf : Value) (b : Addr) (vs : List Value) (n x y : Int32) (h0 : Heap) (n0 : Nat) (Z0 : n0 ≤ h0.size) (O0 : Old Z n0 h0) (S_cs : Sta Z Z.heap "java/lang/String" "COMPACT_STRINGS" "Z" (.int cs)) (hcs : ¬ (cs = (0 : Int32))) (S_sf : Sta Z Z.heap "jdk/internal/util/Preconditions" "SIOOBE_FORMATTER" "Ljava/util/function/BiFunction;" wf) (hwf : wf.isRef = true) (E_a0 : Exa Z h0 a0 "java/lang/String") (F_c : Fld Z h0 a0 "java/lang/String" "coder" "B" (.int (0 : Int32))) (F_v : Fld Z h0 a0 "java/lang/String" "value" "[B" (.ref b)) (A_b : Ary Z h0 b .byte vs) (hlen : vs.length.toInt32 = n) (h0p : ¬ (p1 < (0 : Int32))) (hlt : p1 < n) (hget : vs[p1.toNatClampNeg]? = some (.int x)) (hy : (nar .char (((x &&& (255 : Int32))).toUInt32.toUInt16.toUInt32.toInt32)) = y) :
    MetFree l (⟨"java/lang/String", "charAt", "(I)C"⟩ : MethodName) (head1 (Jvm.Cond.code (⟨"java/lang/String", "charAt", "(I)C"⟩ : MethodName) jdk_42_method_56_code 2 (some .char) :: ws) ({ frames := 3, cells := 0, slots := 0, locals := 40 } : Room)) (fun a U => a = #[(.ref a0), (.int p1)] ∧ Z.Warmed39 U.vm ∧ U.heap = h0) (fun _ _ _ _ _ => True) (fun _ U o U' => ∃ v L, o = .returned v ∧ Q14 Z a0 p1 cs wf b vs n x y h0 n0 v U'.heap L ∧ FrameEnd U o U' L ({ frames := 3, cells := 0, slots := 0, locals := 40 } : Room).cells ({ frames := 3, cells := 0, slots := 0, locals := 40 } : Room).slots) := by
  refine MetFree.of_bodySF (plainFor_of_name pn_13) hisR ?_
  intro p e s m args below meth c s₁ Bd hml0 hP hK
  obtain ⟨rfl, hZ, hh⟩ := hP
  have hx := Bd.exec
  have hby := Bd.bytes
  have hml : c.maxLocals = 2 := hml0
  have hown : s.vm.findClass "java/lang/String" = some m.cls := findClass_of_methodNamed Bd.named
  have hnm := (name_of_methodNamed Bd.named Bd.method).1
  have hlk : meth.locks = false := BodyLoose.notSynchronized Bd
  have X0 : Stand p l e ({ frames := 3, cells := 0, slots := 0, locals := 40 } : Room) s m #[(.ref a0), (.int p1)] below meth c s₁ [] 0 0 := Stand.of_body Bd
  have e0 : s₁.heap = h0 := by rw [← hh, Bd.state]; rfl
  have N0 := Fr.nil n0
  show Run p e s below (Q14 Z a0 p1 cs wf b vs n x y h0 n0) ({ frames := 3, cells := 0, slots := 0, locals := 40 } : Room).cells ({ frames := 3, cells := 0, slots := 0, locals := 40 } : Room).slots s₁ (entryFrame m #[(.ref a0), (.int p1)] 2)
  rw [ef_14]
  show Run _ _ _ _ _ _ _ s₁ (mkF m 0 #[.val (.ref a0), .val (.int p1)] [])
  refine go (T' := s₁) (f' := (mkF m 1 #[.val (.ref a0), .val (.int p1)] [(.ref a0)])) (by intro t k; exact XS.aloadN X0.here hx rfl (hb hby d14_0) rfl rfl k) ?_
  obtain ⟨cq1, kq1, q1a, q1b, q1c⟩ := isOf hZ e0 E_a0
  obtain ⟨_, _, ⟨T1, Lz1, kz1, nz1⟩, -, X1, ⟨Lc1, hQ1, lz1, yz1, zz1⟩, st1⟩ := X0.virtualBack hx (y := (⟨"java/lang/String", "isLatin1", "()Z"⟩ : MethodName)) (z := (⟨"java/lang/String", "isLatin1", "()Z"⟩ : MethodName)) hown (mvT hZ (hw _ (List.mem_of_getElem? (i := 76) rfl))) (mvT hZ (hw _ (List.mem_of_getElem? (i := 77) rfl))) (notFace_of_selects (args := #[]) (mvT hZ (hw _ (List.mem_of_getElem? (i := 79) rfl)))) (mvT hZ (hw _ (List.mem_of_getElem? (i := 79) rfl))) (mvT hZ (hw _ (List.mem_of_getElem? (i := 78) rfl))) (by decide) (backOf (W := 0) (rm15 l Z aw hw [] a0 cs h0 n0 Z0 O0 S_cs hcs F_c) hZ (hw _ (List.mem_of_getElem? (i := 80) rfl)) (hw _ (List.mem_of_getElem? (i := 10) rfl)) (by decide) (by decide)) q1a q1c (g := (mkF m 1 #[.val (.ref a0), .val (.int p1)] [(.ref a0)])) rfl (by rw [hml]; rfl) (Steps.refl _) (argsL := []) (rest := []) (lenOf pd_2829Z rfl) rfl (by show 2 * 0 + _ ≤ _; exact Nat.le_of_eq rfl) (hb hby d14_1) (fun _ _ => ⟨rfl, e0, (by decide : 0 + 0 ≤ _), (by decide : 0 + 0 ≤ _)⟩)
  dsimp only [Pt.U, Pt.locs, Pt.cells, Pt.slots] at X1 lz1 yz1 zz1 st1 hQ1
  subst lz1 yz1 zz1
  obtain ⟨rfl, N1q, e1⟩ := hQ1
  have N1 := Fr.app N0 N1q
  refine go (fun _ k => st1.trans k) ?_
  show Run _ _ _ _ _ _ _ T1 (mkF m 4 #[.val (.ref a0), .val (.int p1)] [(.int (1 : Int32))])
  refine go (T' := T1) (f' := (mkF m 7 #[.val (.ref a0), .val (.int p1)] [])) (by intro t k; exact XS.ifNo X1.here hx rfl (hb hby d14_4) rfl ((if0 _ _).trans (feq (by decide : ¬ ((1 : Int32) = (0 : Int32)))).1) k) ?_
  refine go (T' := T1) (f' := (mkF m 8 #[.val (.ref a0), .val (.int p1)] [(.ref a0)])) (by intro t k; exact XS.aloadN X1.here hx rfl (hb hby d14_7) rfl rfl k) ?_
  obtain ⟨T2, X2, e2, st2⟩ := getF X1 hx hZ hown (host := "") (Or.inl (hw _ (List.mem_of_getElem? (i := 35) rfl))) Via.refl e1 F_v (g := (mkF m 8 #[.val (.ref a0), .val (.int p1)] [(.ref a0)])) rfl rfl (hb hby d14_8)
  refine go st2 ?_
  show Run _ _ _ _ _ _ _ T2 (mkF m 11 #[.val (.ref a0), .val (.int p1)] [(.ref b)])
  refine go (T' := T2) (f' := (mkF m 12 #[.val (.ref a0), .val (.int p1)] [(.int p1), (.ref b)])) (by intro t k; exact XS.iloadN X2.here hx rfl (hb hby d14_11) rfl k) ?_
  obtain ⟨_, _, ⟨T3, Lz3, kz3, nz3⟩, -, X3, ⟨Lc3, hQ3, lz3, yz3, zz3⟩, st3⟩ := Jvm.LawKit.callS X2 hx (y := (⟨"java/lang/StringLatin1", "charAt", "([BI)C"⟩ : MethodName)) hown (mvT hZ (hw _ (List.mem_of_getElem? (i := 81) rfl))) (mvT hZ (hw _ (List.mem_of_getElem? (i := 82) rfl))) (mvT hZ (hw _ (List.mem_of_getElem? (i := 83) rfl))) (mvT hZ (hw _ (List.mem_of_getElem? (i := 84) rfl))) (by decide) (backOf (W := 0) (rm16 l Z aw hw [] b p1 wf vs n x h0 n0 Z0 O0 S_sf hwf A_b hlen h0p hlt hget) hZ (hw _ (List.mem_of_getElem? (i := 84) rfl)) (hw _ (List.mem_of_getElem? (i := 83) rfl)) (by decide) (by decide)) (g := (mkF m 12 #[.val (.ref a0), .val (.int p1)] [(.int p1), (.ref b)])) rfl (by rw [hml]; rfl) (argsL := [(.ref b), (.int p1)]) (rest := []) (lenOf pd_285bBI29C rfl) rfl (by show 2 * 0 + _ ≤ _; exact Nat.le_of_eq rfl) (hb hby d14_12) (fun _ _ => ⟨rfl, e2, (by decide : 0 + 0 ≤ _), (by decide : 0 + 0 ≤ _)⟩)
  dsimp only [Pt.U, Pt.locs, Pt.cells, Pt.slots] at X3 lz3 yz3 zz3 st3 hQ3
  subst lz3 yz3 zz3
  obtain ⟨rfl, N3q, e3⟩ := hQ3
  have N3 := Fr.app N1 N3q
  refine go st3 ?_
  show Run _ _ _ _ _ _ _ T3 (mkF m 15 #[.val (.ref a0), .val (.int p1)] [(.int (nar .char (((x &&& (255 : Int32))).toUInt32.toUInt16.toUInt32.toInt32)))])
  refine retZ X3 hx (t := .char) Bd.returns (by simp) (hb hby d14_15) hlk (by decide) (by decide) ?_
  show Q14 Z a0 p1 cs wf b vs n x y h0 n0 _ T3.heap _
  rw [e3]
  have hv' : (nar .char (nar .char (((x &&& (255 : Int32))).toUInt32.toUInt16.toUInt32.toInt32))) = y := by
    exact (own_nar2 _).trans hy
  have hv : (some (.int (nar .char (nar .char (((x &&& (255 : Int32))).toUInt32.toUInt16.toUInt32.toInt32)))) : Option Value) = some (.int y) := congrArg (fun z => (some (.int z) : Option Value)) hv'
  exact ⟨hv, N3, rfl⟩
theorem own_b16 (c : Int32) : (nar .char c).toBitVec = (c.toBitVec.setWidth 16).setWidth 32 := rfl
theorem own_b8 (c : Int32) : (nar .byte (c.toInt8.toInt32)).toBitVec = (c.toBitVec.setWidth 8).signExtend 32 := by
  have e : nar .byte (c.toInt8.toInt32) = c.toInt8.toInt32 := by
    show (c.toInt8.toInt32).toInt8.toInt32 = _
    rw [Int8.toInt8_toInt32]
  rw [e]
  simp only [Int8.toBitVec_toInt32, Int32.toBitVec_toInt8]
  rw [BitVec.signExtend_eq_setWidth_of_le _ (by decide : 8 ≤ 32)]
theorem own_sr8 (c : Int32) : (c >>> ((8 : Int32) &&& 31)).toBitVec = c.toBitVec.sshiftRight 8 := by
  rw [Int32.toBitVec_shiftRight]
  show c.toBitVec.sshiftRight' (((8 : Int32) &&& 31).toBitVec.smod 32) = _
  rw [BitVec.sshiftRight_eq', show ((((8 : Int32) &&& 31).toBitVec.smod 32)).toNat = 8 by decide]
theorem own_sl8 (c : Int32) : (c <<< ((8 : Int32) &&& 31)).toBitVec = c.toBitVec <<< 8 := by
  rw [Int32.toBitVec_shiftLeft]
  show c.toBitVec <<< (((8 : Int32) &&& 31).toBitVec.smod 32) = _
  rw [BitVec.shiftLeft_eq', show ((((8 : Int32) &&& 31).toBitVec.smod 32)).toNat = 8 by decide]
theorem own_sl0 (c : Int32) : (c <<< ((0 : Int32) &&& 31)) = c := by
  apply Int32.toBitVec_inj.mp
  rw [Int32.toBitVec_shiftLeft]
  show c.toBitVec <<< (((0 : Int32) &&& 31).toBitVec.smod 32) = _
  rw [BitVec.shiftLeft_eq', show ((((0 : Int32) &&& 31).toBitVec.smod 32)).toNat = 0 by decide, BitVec.shiftLeft_zero]
theorem own_sx (z : BitVec 8) : z.signExtend 32 &&& 255#32 = z.setWidth 32 := by
  revert z
  decide +kernel
theorem own_bits (x : BitVec 32) (h : (x.setWidth 16).setWidth 32 = x) : ((((x.setWidth 8).signExtend 32 &&& 255#32) ||| (((x.sshiftRight 8).setWidth 8).signExtend 32 &&& 255#32) <<< 8).setWidth 16).setWidth 32 = x := by
  rw [own_sx, own_sx]
  apply BitVec.eq_of_getLsbD_eq
  intro i hi
  have g := congrArg (fun z => z.getLsbD i) h
  simp only [BitVec.getLsbD_or, BitVec.getLsbD_setWidth, BitVec.getLsbD_shiftLeft, BitVec.getLsbD_sshiftRight] at g ⊢
  by_cases h1 : i < 8
  · have a1 : i < 16 := by omega
    simp [h1, a1, hi]
  · by_cases h2 : i < 16
    · have a1 : 8 + (i - 8) = i := by omega
      have a2 : i - 8 < 8 := by omega
      have a3 : ¬ (32 ≤ i - 8) := by omega
      have a4 : i - 8 < 32 := by omega
      simp [h1, h2, hi, a1, a2, a3, a4]
    · simp [h2] at g ⊢
      exact g
theorem own_gc {c : Int32} (h : nar .char c = c) : (nar .char (((((nar .byte (((c >>> ((0 : Int32) &&& 31))).toInt8.toInt32)) &&& (255 : Int32)) <<< ((0 : Int32) &&& 31)) ||| (((nar .byte (((c >>> ((8 : Int32) &&& 31))).toInt8.toInt32)) &&& (255 : Int32)) <<< ((8 : Int32) &&& 31))).toUInt32.toUInt16.toUInt32.toInt32)) = c := by
  rw [own_sl0, own_shr0]
  apply Int32.toBitVec_inj.mp
  have h' : (c.toBitVec.setWidth 16).setWidth 32 = c.toBitVec := congrArg Int32.toBitVec h
  have e := own_bits c.toBitVec h'
  have r : ∀ y : Int32, (nar .char (y.toUInt32.toUInt16.toUInt32.toInt32)) = nar .char y := fun y => by
    show nar .char (nar .char y) = nar .char y
    simp only [nar, UInt32.toUInt32_toInt32, UInt16.toUInt16_toUInt32]
  rw [r, own_b16, Int32.toBitVec_or, own_sl8, Int32.toBitVec_and, Int32.toBitVec_and, own_b8, own_b8, own_sr8]
  exact e
theorem own_latc {c : Int32} (h : nar .char c = c) (hu : ¬ ((255 : Int32) < c)) : (nar .char ((((nar .byte ((c).toInt8.toInt32)) &&& (255 : Int32))).toUInt32.toUInt16.toUInt32.toInt32)) = c := by
  have f := fits_nar_char c
  rw [h] at f
  simp only [fits, Bool.and_eq_true, decide_eq_true_eq] at f
  have e1 : (0 : Int32).toInt = 0 := (by decide)
  have e2 : (255 : Int32).toInt = 255 := (by decide)
  rw [Int32.le_iff_toInt_le, e1] at f
  rw [Int32.lt_iff_toInt_lt, e2] at hu
  obtain ⟨n, rfl⟩ : ∃ n : Fin 256, c = Int32.ofNat n.1 := by
    refine ⟨⟨c.toInt.toNat, by omega⟩, ?_⟩
    show c = Int32.ofNat c.toInt.toNat
    rw [← Int32.ofInt_eq_ofNat, Int.toNat_of_nonneg f.1, Int32.ofInt_toInt]
  clear h hu f
  revert n
  decide +kernel
theorem own_char {z x : Int32} (h : z = (((x &&& (65535 : Int32))).toUInt32.toUInt16.toUInt32.toInt32)) : nar .char z = z := by
  rw [h]
  show nar .char (nar .char _) = nar .char _
  exact own_nar2 _
theorem d6_0 : decode jdk_52_method_21_code 0 = .ok (.iconst 0, 1) := by decide +kernel
theorem d6_1 : decode jdk_52_method_21_code 1 = .ok (.istore 5, 2) := by decide +kernel
theorem d6_3 : decode jdk_52_method_21_code 3 = .ok (.iload 5, 2) := by decide +kernel
theorem d6_5 : decode jdk_52_method_21_code 5 = .ok (.iload 4, 2) := by decide +kernel
theorem d6_7 : decode jdk_52_method_21_code 7 = .ok (.if_icmp .ge 37, 3) := by decide +kernel
theorem d6_10 : decode jdk_52_method_21_code 10 = .ok (.aload_n 0, 1) := by decide +kernel
theorem d6_11 : decode jdk_52_method_21_code 11 = .ok (.iload_n 1, 1) := by decide +kernel
theorem d6_12 : decode jdk_52_method_21_code 12 = .ok (.caload, 1) := by decide +kernel
theorem d6_13 : decode jdk_52_method_21_code 13 = .ok (.istore 6, 2) := by decide +kernel
theorem d6_15 : decode jdk_52_method_21_code 15 = .ok (.iload 6, 2) := by decide +kernel
theorem d6_17 : decode jdk_52_method_21_code 17 = .ok (.sipush 255, 3) := by decide +kernel
theorem d6_20 : decode jdk_52_method_21_code 20 = .ok (.if_icmp .le 6, 3) := by decide +kernel
theorem d6_26 : decode jdk_52_method_21_code 26 = .ok (.aload_n 2, 1) := by decide +kernel
theorem d6_27 : decode jdk_52_method_21_code 27 = .ok (.iload_n 3, 1) := by decide +kernel
theorem d6_28 : decode jdk_52_method_21_code 28 = .ok (.iload 6, 2) := by decide +kernel
theorem d6_30 : decode jdk_52_method_21_code 30 = .ok (.i2b, 1) := by decide +kernel
theorem d6_31 : decode jdk_52_method_21_code 31 = .ok (.bastore, 1) := by decide +kernel
theorem d6_32 : decode jdk_52_method_21_code 32 = .ok (.iinc 1 1, 3) := by decide +kernel
theorem d6_35 : decode jdk_52_method_21_code 35 = .ok (.iinc 3 1, 3) := by decide +kernel
theorem d6_38 : decode jdk_52_method_21_code 38 = .ok (.iinc 5 1, 3) := by decide +kernel
theorem d6_41 : decode jdk_52_method_21_code 41 = .ok (.goto (-38), 3) := by decide +kernel
theorem d6_44 : decode jdk_52_method_21_code 44 = .ok (.iload 4, 2) := by decide +kernel
theorem d6_46 : decode jdk_52_method_21_code 46 = .ok (.ireturn, 1) := by decide +kernel
theorem pn_6 : plainName "java/lang/StringUTF16" = true := by first | (simp [plainName, overriddenIn]; done) | decide +kernel
theorem ef_6n2 (m : MethodId) (x0 : Addr) (x2 : Addr) : entryFrame m #[(.ref x0), (.int (0 : Int32)), (.ref x2), (.int (0 : Int32)), (.int (2 : Int32))] 7 = mkF m 0 #[.val (.ref x0), .val (.int (0 : Int32)), .val (.ref x2), .val (.int (0 : Int32)), .val (.int (2 : Int32)), .unset, .unset] [] := by first | (simp [entryFrame, mkF, argsToLocals, Value.category]; done) | rfl
def Q6n2 (Z : State) (a0 : Addr) (a2 : Addr) (c0 c1 : Int32) (h0 : Heap) (n0 : Nat) (v : Option Value) (h : Heap) (L : List Loc) : Prop := v = some (.int (2 : Int32)) ∧ Fr n0 L ∧ Keep h0 h [a2] ∧ Ary Z h a2 .byte [(.int (nar .byte ((c0).toInt8.toInt32))), (.int (nar .byte ((c1).toInt8.toInt32)))]
set_option maxRecDepth 65536 in
set_option maxHeartbeats 40000000 in
theorem rm6n2 (l : Launch) (Z : State) (aw : Array Value) (hw : ∀ d ∈ tables_1, d.before aw Z = true) (ws : List Jvm.Cond) (a0 : Addr) (a2 : Addr) (c0 c1 : Int32) (h0 : Heap) (n0 : Nat) (Z0 : n0 ≤ h0.size) (A_a0 : Ary Z h0 a0 .char [(.int c0), (.int c1)]) (A_a2 : Ary Z h0 a2 .byte [(.int (0 : Int32)), (.int (0 : Int32))]) (n_02 : a0 ≠ a2) (g_a2 : n0 ≤ a2) (hu0 : ¬ ((255 : Int32) < c0)) (hu1 : ¬ ((255 : Int32) < c1)) :
    MetFree l (⟨"java/lang/StringUTF16", "compress", "([CI[BII)I"⟩ : MethodName) (head1 (Jvm.Cond.code (⟨"java/lang/StringUTF16", "compress", "([CI[BII)I"⟩ : MethodName) jdk_52_method_21_code 7 (some .int) :: ws) ({ frames := 0, cells := 0, slots := 0, locals := 0 } : Room)) (fun a U => a = #[(.ref a0), (.int (0 : Int32)), (.ref a2), (.int (0 : Int32)), (.int (2 : Int32))] ∧ Z.Warmed39 U.vm ∧ U.heap = h0) (fun _ _ _ _ _ => True) (fun _ U o U' => ∃ v L, o = .returned v ∧ Q6n2 Z a0 a2 c0 c1 h0 n0 v U'.heap L ∧ FrameEnd U o U' L ({ frames := 0, cells := 0, slots := 0, locals := 0 } : Room).cells ({ frames := 0, cells := 0, slots := 0, locals := 0 } : Room).slots) := by
  refine MetFree.of_bodySF (plainFor_of_name pn_6) hisR ?_
  intro p e s m args below meth c s₁ Bd hml0 hP hK
  obtain ⟨rfl, hZ, hh⟩ := hP
  have hx := Bd.exec
  have hby := Bd.bytes
  have hml : c.maxLocals = 7 := hml0
  have hown : s.vm.findClass "java/lang/StringUTF16" = some m.cls := findClass_of_methodNamed Bd.named
  have hnm := (name_of_methodNamed Bd.named Bd.method).1
  have hlk : meth.locks = false := BodyLoose.notSynchronized Bd
  have X0 : Stand p l e ({ frames := 0, cells := 0, slots := 0, locals := 0 } : Room) s m #[(.ref a0), (.int (0 : Int32)), (.ref a2), (.int (0 : Int32)), (.int (2 : Int32))] below meth c s₁ [] 0 0 := Stand.of_body Bd
  have e0 : s₁.heap = h0 := by rw [← hh, Bd.state]; rfl
  have N0 := Fr.nil n0
  show Run p e s below (Q6n2 Z a0 a2 c0 c1 h0 n0) ({ frames := 0, cells := 0, slots := 0, locals := 0 } : Room).cells ({ frames := 0, cells := 0, slots := 0, locals := 0 } : Room).slots s₁ (entryFrame m #[(.ref a0), (.int (0 : Int32)), (.ref a2), (.int (0 : Int32)), (.int (2 : Int32))] 7)
  rw [ef_6n2]
  show Run _ _ _ _ _ _ _ s₁ (mkF m 0 #[.val (.ref a0), .val (.int (0 : Int32)), .val (.ref a2), .val (.int (0 : Int32)), .val (.int (2 : Int32)), .unset, .unset] [])
  refine go (T' := s₁) (f' := (mkF m 1 #[.val (.ref a0), .val (.int (0 : Int32)), .val (.ref a2), .val (.int (0 : Int32)), .val (.int (2 : Int32)), .unset, .unset] [(.int (0 : Int32))])) (by intro t k; exact XS.iconst X0.here hx rfl (hb hby d6_0) k) ?_
  refine go (T' := s₁) (f' := (mkF m 3 #[.val (.ref a0), .val (.int (0 : Int32)), .val (.ref a2), .val (.int (0 : Int32)), .val (.int (2 : Int32)), .val (.int (0 : Int32)), .unset] [])) (by intro t k; exact XS.istore X0.here hx rfl (hb hby d6_1) rfl (l' := #[.val (.ref a0), .val (.int (0 : Int32)), .val (.ref a2), .val (.int (0 : Int32)), .val (.int (2 : Int32)), .val (.int (0 : Int32)), .unset]) rfl k) ?_
  refine go (T' := s₁) (f' := (mkF m 5 #[.val (.ref a0), .val (.int (0 : Int32)), .val (.ref a2), .val (.int (0 : Int32)), .val (.int (2 : Int32)), .val (.int (0 : Int32)), .unset] [(.int (0 : Int32))])) (by intro t k; exact XS.iload X0.here hx rfl (hb hby d6_3) rfl k) ?_
  refine go (T' := s₁) (f' := (mkF m 7 #[.val (.ref a0), .val (.int (0 : Int32)), .val (.ref a2), .val (.int (0 : Int32)), .val (.int (2 : Int32)), .val (.int (0 : Int32)), .unset] [(.int (2 : Int32)), (.int (0 : Int32))])) (by intro t k; exact XS.iload X0.here hx rfl (hb hby d6_5) rfl k) ?_
  refine go (T' := s₁) (f' := (mkF m 10 #[.val (.ref a0), .val (.int (0 : Int32)), .val (.ref a2), .val (.int (0 : Int32)), .val (.int (2 : Int32)), .val (.int (0 : Int32)), .unset] [])) (by intro t k; exact XS.icmpNo X0.here hx rfl (hb hby d6_7) rfl (tlt (by decide : (0 : Int32) < (2 : Int32))).2.1 k) ?_
  refine go (T' := s₁) (f' := (mkF m 11 #[.val (.ref a0), .val (.int (0 : Int32)), .val (.ref a2), .val (.int (0 : Int32)), .val (.int (2 : Int32)), .val (.int (0 : Int32)), .unset] [(.ref a0)])) (by intro t k; exact XS.aloadN X0.here hx rfl (hb hby d6_10) rfl rfl k) ?_
  refine go (T' := s₁) (f' := (mkF m 12 #[.val (.ref a0), .val (.int (0 : Int32)), .val (.ref a2), .val (.int (0 : Int32)), .val (.int (2 : Int32)), .val (.int (0 : Int32)), .unset] [(.int (0 : Int32)), (.ref a0)])) (by intro t k; exact XS.iloadN X0.here hx rfl (hb hby d6_11) rfl k) ?_
  refine go (T' := s₁) (f' := (mkF m 13 #[.val (.ref a0), .val (.int (0 : Int32)), .val (.ref a2), .val (.int (0 : Int32)), .val (.int (2 : Int32)), .val (.int (0 : Int32)), .unset] [(.int c0)])) (by intro t k; exact ldC X0 hx hZ e0 A_a0 (j := (0 : Int32)) (v := (.int c0)) (by decide) rfl (g := (mkF m 12 #[.val (.ref a0), .val (.int (0 : Int32)), .val (.ref a2), .val (.int (0 : Int32)), .val (.int (2 : Int32)), .val (.int (0 : Int32)), .unset] [(.int (0 : Int32)), (.ref a0)])) rfl rfl (hb hby d6_12) _ k) ?_
  refine go (T' := s₁) (f' := (mkF m 15 #[.val (.ref a0), .val (.int (0 : Int32)), .val (.ref a2), .val (.int (0 : Int32)), .val (.int (2 : Int32)), .val (.int (0 : Int32)), .val (.int c0)] [])) (by intro t k; exact XS.istore X0.here hx rfl (hb hby d6_13) rfl (l' := #[.val (.ref a0), .val (.int (0 : Int32)), .val (.ref a2), .val (.int (0 : Int32)), .val (.int (2 : Int32)), .val (.int (0 : Int32)), .val (.int c0)]) rfl k) ?_
  refine go (T' := s₁) (f' := (mkF m 17 #[.val (.ref a0), .val (.int (0 : Int32)), .val (.ref a2), .val (.int (0 : Int32)), .val (.int (2 : Int32)), .val (.int (0 : Int32)), .val (.int c0)] [(.int c0)])) (by intro t k; exact XS.iload X0.here hx rfl (hb hby d6_15) rfl k) ?_
  refine go (T' := s₁) (f' := (mkF m 20 #[.val (.ref a0), .val (.int (0 : Int32)), .val (.ref a2), .val (.int (0 : Int32)), .val (.int (2 : Int32)), .val (.int (0 : Int32)), .val (.int c0)] [(.int (255 : Int32)), (.int c0)])) (by intro t k; exact XS.sipush X0.here hx rfl (hb hby d6_17) k) ?_
  refine go (T' := s₁) (f' := (mkF m 26 #[.val (.ref a0), .val (.int (0 : Int32)), .val (.ref a2), .val (.int (0 : Int32)), .val (.int (2 : Int32)), .val (.int (0 : Int32)), .val (.int c0)] [])) (by intro t k; exact XS.icmpYes X0.here hx rfl (pc0 := 20) (pc' := 26) rfl (hb hby d6_20) rfl (flt (by first | exact hu0 | exact hu1 : ¬ ((255 : Int32) < c0))).2.2.2 (by decide) (by decide) k) ?_
  refine go (T' := s₁) (f' := (mkF m 27 #[.val (.ref a0), .val (.int (0 : Int32)), .val (.ref a2), .val (.int (0 : Int32)), .val (.int (2 : Int32)), .val (.int (0 : Int32)), .val (.int c0)] [(.ref a2)])) (by intro t k; exact XS.aloadN X0.here hx rfl (hb hby d6_26) rfl rfl k) ?_
  refine go (T' := s₁) (f' := (mkF m 28 #[.val (.ref a0), .val (.int (0 : Int32)), .val (.ref a2), .val (.int (0 : Int32)), .val (.int (2 : Int32)), .val (.int (0 : Int32)), .val (.int c0)] [(.int (0 : Int32)), (.ref a2)])) (by intro t k; exact XS.iloadN X0.here hx rfl (hb hby d6_27) rfl k) ?_
  refine go (T' := s₁) (f' := (mkF m 30 #[.val (.ref a0), .val (.int (0 : Int32)), .val (.ref a2), .val (.int (0 : Int32)), .val (.int (2 : Int32)), .val (.int (0 : Int32)), .val (.int c0)] [(.int c0), (.int (0 : Int32)), (.ref a2)])) (by intro t k; exact XS.iload X0.here hx rfl (hb hby d6_28) rfl k) ?_
  refine go (T' := s₁) (f' := (mkF m 31 #[.val (.ref a0), .val (.int (0 : Int32)), .val (.ref a2), .val (.int (0 : Int32)), .val (.int (2 : Int32)), .val (.int (0 : Int32)), .val (.int c0)] [(.int ((c0).toInt8.toInt32)), (.int (0 : Int32)), (.ref a2)])) (by intro t k; exact XS.i2b X0.here hx rfl (hb hby d6_30) rfl k) ?_
  obtain ⟨cl1, Ar1, hin1⟩ := Ary.st (j := (0 : Int32)) A_a2 (by decide) (by show (0 : Int32).toNatClampNeg < 2; decide)
  obtain ⟨T1, h1, X1, e1, W1, st1⟩ := stB X0 hx hZ e0 Ar1 (j := (0 : Int32)) hin1 (g := (mkF m 31 #[.val (.ref a0), .val (.int (0 : Int32)), .val (.ref a2), .val (.int (0 : Int32)), .val (.int (2 : Int32)), .val (.int (0 : Int32)), .val (.int c0)] [(.int ((c0).toInt8.toInt32)), (.int (0 : Int32)), (.ref a2)])) rfl rfl (hb hby d6_31)
  have K1 : Keep h0 h1 [a2] := Keep.of_wr W1
  have V1 : Ary Z h1 a2 .byte [(.int (nar .byte ((c0).toInt8.toInt32))), (.int (0 : Int32))] := Ary.set A_a2 W1 (fits_nar_byte _)
  have N1 := Fr.snoc X1 N0 g_a2
  have A1_a0 := Ary.keep A_a0 K1 (ninS n_02 nin0)
  have Z1 : n0 ≤ h1.size := Nat.le_trans Z0 K1.1
  have KK1 : Keep h0 h1 [a2] := (Keep.refl _ _).trans K1 (allS (Or.inl (List.mem_of_getElem? (i := 0) rfl)) all0)
  refine go st1 ?_
  show Run _ _ _ _ _ _ _ T1 (mkF m 32 #[.val (.ref a0), .val (.int (0 : Int32)), .val (.ref a2), .val (.int (0 : Int32)), .val (.int (2 : Int32)), .val (.int (0 : Int32)), .val (.int c0)] [])
  refine go (T' := T1) (f' := (mkF m 35 #[.val (.ref a0), .val (.int (1 : Int32)), .val (.ref a2), .val (.int (0 : Int32)), .val (.int (2 : Int32)), .val (.int (0 : Int32)), .val (.int c0)] [])) (by intro t k; exact XS.iinc X1.here hx rfl (hb hby d6_32) rfl (l' := #[.val (.ref a0), .val (.int (1 : Int32)), .val (.ref a2), .val (.int (0 : Int32)), .val (.int (2 : Int32)), .val (.int (0 : Int32)), .val (.int c0)]) rfl k) ?_
  refine go (T' := T1) (f' := (mkF m 38 #[.val (.ref a0), .val (.int (1 : Int32)), .val (.ref a2), .val (.int (1 : Int32)), .val (.int (2 : Int32)), .val (.int (0 : Int32)), .val (.int c0)] [])) (by intro t k; exact XS.iinc X1.here hx rfl (hb hby d6_35) rfl (l' := #[.val (.ref a0), .val (.int (1 : Int32)), .val (.ref a2), .val (.int (1 : Int32)), .val (.int (2 : Int32)), .val (.int (0 : Int32)), .val (.int c0)]) rfl k) ?_
  refine go (T' := T1) (f' := (mkF m 41 #[.val (.ref a0), .val (.int (1 : Int32)), .val (.ref a2), .val (.int (1 : Int32)), .val (.int (2 : Int32)), .val (.int (1 : Int32)), .val (.int c0)] [])) (by intro t k; exact XS.iinc X1.here hx rfl (hb hby d6_38) rfl (l' := #[.val (.ref a0), .val (.int (1 : Int32)), .val (.ref a2), .val (.int (1 : Int32)), .val (.int (2 : Int32)), .val (.int (1 : Int32)), .val (.int c0)]) rfl k) ?_
  refine go (T' := T1) (f' := (mkF m 3 #[.val (.ref a0), .val (.int (1 : Int32)), .val (.ref a2), .val (.int (1 : Int32)), .val (.int (2 : Int32)), .val (.int (1 : Int32)), .val (.int c0)] [])) (by intro t k; exact XS.goto X1.here hx rfl (pc0 := 41) (pc' := 3) rfl (hb hby d6_41) (by decide) (by decide) k) ?_
  refine go (T' := T1) (f' := (mkF m 5 #[.val (.ref a0), .val (.int (1 : Int32)), .val (.ref a2), .val (.int (1 : Int32)), .val (.int (2 : Int32)), .val (.int (1 : Int32)), .val (.int c0)] [(.int (1 : Int32))])) (by intro t k; exact XS.iload X1.here hx rfl (hb hby d6_3) rfl k) ?_
  refine go (T' := T1) (f' := (mkF m 7 #[.val (.ref a0), .val (.int (1 : Int32)), .val (.ref a2), .val (.int (1 : Int32)), .val (.int (2 : Int32)), .val (.int (1 : Int32)), .val (.int c0)] [(.int (2 : Int32)), (.int (1 : Int32))])) (by intro t k; exact XS.iload X1.here hx rfl (hb hby d6_5) rfl k) ?_
  refine go (T' := T1) (f' := (mkF m 10 #[.val (.ref a0), .val (.int (1 : Int32)), .val (.ref a2), .val (.int (1 : Int32)), .val (.int (2 : Int32)), .val (.int (1 : Int32)), .val (.int c0)] [])) (by intro t k; exact XS.icmpNo X1.here hx rfl (hb hby d6_7) rfl (tlt (by decide : (1 : Int32) < (2 : Int32))).2.1 k) ?_
  refine go (T' := T1) (f' := (mkF m 11 #[.val (.ref a0), .val (.int (1 : Int32)), .val (.ref a2), .val (.int (1 : Int32)), .val (.int (2 : Int32)), .val (.int (1 : Int32)), .val (.int c0)] [(.ref a0)])) (by intro t k; exact XS.aloadN X1.here hx rfl (hb hby d6_10) rfl rfl k) ?_
  refine go (T' := T1) (f' := (mkF m 12 #[.val (.ref a0), .val (.int (1 : Int32)), .val (.ref a2), .val (.int (1 : Int32)), .val (.int (2 : Int32)), .val (.int (1 : Int32)), .val (.int c0)] [(.int (1 : Int32)), (.ref a0)])) (by intro t k; exact XS.iloadN X1.here hx rfl (hb hby d6_11) rfl k) ?_
  refine go (T' := T1) (f' := (mkF m 13 #[.val (.ref a0), .val (.int (1 : Int32)), .val (.ref a2), .val (.int (1 : Int32)), .val (.int (2 : Int32)), .val (.int (1 : Int32)), .val (.int c0)] [(.int c1)])) (by intro t k; exact ldC X1 hx hZ e1 A1_a0 (j := (1 : Int32)) (v := (.int c1)) (by decide) rfl (g := (mkF m 12 #[.val (.ref a0), .val (.int (1 : Int32)), .val (.ref a2), .val (.int (1 : Int32)), .val (.int (2 : Int32)), .val (.int (1 : Int32)), .val (.int c0)] [(.int (1 : Int32)), (.ref a0)])) rfl rfl (hb hby d6_12) _ k) ?_
  refine go (T' := T1) (f' := (mkF m 15 #[.val (.ref a0), .val (.int (1 : Int32)), .val (.ref a2), .val (.int (1 : Int32)), .val (.int (2 : Int32)), .val (.int (1 : Int32)), .val (.int c1)] [])) (by intro t k; exact XS.istore X1.here hx rfl (hb hby d6_13) rfl (l' := #[.val (.ref a0), .val (.int (1 : Int32)), .val (.ref a2), .val (.int (1 : Int32)), .val (.int (2 : Int32)), .val (.int (1 : Int32)), .val (.int c1)]) rfl k) ?_
  refine go (T' := T1) (f' := (mkF m 17 #[.val (.ref a0), .val (.int (1 : Int32)), .val (.ref a2), .val (.int (1 : Int32)), .val (.int (2 : Int32)), .val (.int (1 : Int32)), .val (.int c1)] [(.int c1)])) (by intro t k; exact XS.iload X1.here hx rfl (hb hby d6_15) rfl k) ?_
  refine go (T' := T1) (f' := (mkF m 20 #[.val (.ref a0), .val (.int (1 : Int32)), .val (.ref a2), .val (.int (1 : Int32)), .val (.int (2 : Int32)), .val (.int (1 : Int32)), .val (.int c1)] [(.int (255 : Int32)), (.int c1)])) (by intro t k; exact XS.sipush X1.here hx rfl (hb hby d6_17) k) ?_
  refine go (T' := T1) (f' := (mkF m 26 #[.val (.ref a0), .val (.int (1 : Int32)), .val (.ref a2), .val (.int (1 : Int32)), .val (.int (2 : Int32)), .val (.int (1 : Int32)), .val (.int c1)] [])) (by intro t k; exact XS.icmpYes X1.here hx rfl (pc0 := 20) (pc' := 26) rfl (hb hby d6_20) rfl (flt (by first | exact hu0 | exact hu1 : ¬ ((255 : Int32) < c1))).2.2.2 (by decide) (by decide) k) ?_
  refine go (T' := T1) (f' := (mkF m 27 #[.val (.ref a0), .val (.int (1 : Int32)), .val (.ref a2), .val (.int (1 : Int32)), .val (.int (2 : Int32)), .val (.int (1 : Int32)), .val (.int c1)] [(.ref a2)])) (by intro t k; exact XS.aloadN X1.here hx rfl (hb hby d6_26) rfl rfl k) ?_
  refine go (T' := T1) (f' := (mkF m 28 #[.val (.ref a0), .val (.int (1 : Int32)), .val (.ref a2), .val (.int (1 : Int32)), .val (.int (2 : Int32)), .val (.int (1 : Int32)), .val (.int c1)] [(.int (1 : Int32)), (.ref a2)])) (by intro t k; exact XS.iloadN X1.here hx rfl (hb hby d6_27) rfl k) ?_
  refine go (T' := T1) (f' := (mkF m 30 #[.val (.ref a0), .val (.int (1 : Int32)), .val (.ref a2), .val (.int (1 : Int32)), .val (.int (2 : Int32)), .val (.int (1 : Int32)), .val (.int c1)] [(.int c1), (.int (1 : Int32)), (.ref a2)])) (by intro t k; exact XS.iload X1.here hx rfl (hb hby d6_28) rfl k) ?_
  refine go (T' := T1) (f' := (mkF m 31 #[.val (.ref a0), .val (.int (1 : Int32)), .val (.ref a2), .val (.int (1 : Int32)), .val (.int (2 : Int32)), .val (.int (1 : Int32)), .val (.int c1)] [(.int ((c1).toInt8.toInt32)), (.int (1 : Int32)), (.ref a2)])) (by intro t k; exact XS.i2b X1.here hx rfl (hb hby d6_30) rfl k) ?_
  obtain ⟨cl2, Ar2, hin2⟩ := Ary.st (j := (1 : Int32)) V1 (by decide) (by show (1 : Int32).toNatClampNeg < 2; decide)
  obtain ⟨T2, h2, X2, e2, W2, st2⟩ := stB X1 hx hZ e1 Ar2 (j := (1 : Int32)) hin2 (g := (mkF m 31 #[.val (.ref a0), .val (.int (1 : Int32)), .val (.ref a2), .val (.int (1 : Int32)), .val (.int (2 : Int32)), .val (.int (1 : Int32)), .val (.int c1)] [(.int ((c1).toInt8.toInt32)), (.int (1 : Int32)), (.ref a2)])) rfl rfl (hb hby d6_31)
  have K2 : Keep h1 h2 [a2] := Keep.of_wr W2
  have V2 : Ary Z h2 a2 .byte [(.int (nar .byte ((c0).toInt8.toInt32))), (.int (nar .byte ((c1).toInt8.toInt32)))] := Ary.set V1 W2 (fits_nar_byte _)
  have N2 := Fr.snoc X2 N1 g_a2
  have A2_a0 := Ary.keep A1_a0 K2 (ninS n_02 nin0)
  have Z2 : n0 ≤ h2.size := Nat.le_trans Z1 K2.1
  have KK2 : Keep h0 h2 [a2] := KK1.trans K2 (allS (Or.inl (List.mem_of_getElem? (i := 0) rfl)) all0)
  refine go st2 ?_
  show Run _ _ _ _ _ _ _ T2 (mkF m 32 #[.val (.ref a0), .val (.int (1 : Int32)), .val (.ref a2), .val (.int (1 : Int32)), .val (.int (2 : Int32)), .val (.int (1 : Int32)), .val (.int c1)] [])
  refine go (T' := T2) (f' := (mkF m 35 #[.val (.ref a0), .val (.int (2 : Int32)), .val (.ref a2), .val (.int (1 : Int32)), .val (.int (2 : Int32)), .val (.int (1 : Int32)), .val (.int c1)] [])) (by intro t k; exact XS.iinc X2.here hx rfl (hb hby d6_32) rfl (l' := #[.val (.ref a0), .val (.int (2 : Int32)), .val (.ref a2), .val (.int (1 : Int32)), .val (.int (2 : Int32)), .val (.int (1 : Int32)), .val (.int c1)]) rfl k) ?_
  refine go (T' := T2) (f' := (mkF m 38 #[.val (.ref a0), .val (.int (2 : Int32)), .val (.ref a2), .val (.int (2 : Int32)), .val (.int (2 : Int32)), .val (.int (1 : Int32)), .val (.int c1)] [])) (by intro t k; exact XS.iinc X2.here hx rfl (hb hby d6_35) rfl (l' := #[.val (.ref a0), .val (.int (2 : Int32)), .val (.ref a2), .val (.int (2 : Int32)), .val (.int (2 : Int32)), .val (.int (1 : Int32)), .val (.int c1)]) rfl k) ?_
  refine go (T' := T2) (f' := (mkF m 41 #[.val (.ref a0), .val (.int (2 : Int32)), .val (.ref a2), .val (.int (2 : Int32)), .val (.int (2 : Int32)), .val (.int (2 : Int32)), .val (.int c1)] [])) (by intro t k; exact XS.iinc X2.here hx rfl (hb hby d6_38) rfl (l' := #[.val (.ref a0), .val (.int (2 : Int32)), .val (.ref a2), .val (.int (2 : Int32)), .val (.int (2 : Int32)), .val (.int (2 : Int32)), .val (.int c1)]) rfl k) ?_
  refine go (T' := T2) (f' := (mkF m 3 #[.val (.ref a0), .val (.int (2 : Int32)), .val (.ref a2), .val (.int (2 : Int32)), .val (.int (2 : Int32)), .val (.int (2 : Int32)), .val (.int c1)] [])) (by intro t k; exact XS.goto X2.here hx rfl (pc0 := 41) (pc' := 3) rfl (hb hby d6_41) (by decide) (by decide) k) ?_
  refine go (T' := T2) (f' := (mkF m 5 #[.val (.ref a0), .val (.int (2 : Int32)), .val (.ref a2), .val (.int (2 : Int32)), .val (.int (2 : Int32)), .val (.int (2 : Int32)), .val (.int c1)] [(.int (2 : Int32))])) (by intro t k; exact XS.iload X2.here hx rfl (hb hby d6_3) rfl k) ?_
  refine go (T' := T2) (f' := (mkF m 7 #[.val (.ref a0), .val (.int (2 : Int32)), .val (.ref a2), .val (.int (2 : Int32)), .val (.int (2 : Int32)), .val (.int (2 : Int32)), .val (.int c1)] [(.int (2 : Int32)), (.int (2 : Int32))])) (by intro t k; exact XS.iload X2.here hx rfl (hb hby d6_5) rfl k) ?_
  refine go (T' := T2) (f' := (mkF m 44 #[.val (.ref a0), .val (.int (2 : Int32)), .val (.ref a2), .val (.int (2 : Int32)), .val (.int (2 : Int32)), .val (.int (2 : Int32)), .val (.int c1)] [])) (by intro t k; exact XS.icmpYes X2.here hx rfl (pc0 := 7) (pc' := 44) rfl (hb hby d6_7) rfl (flt (by decide : ¬ ((2 : Int32) < (2 : Int32)))).2.1 (by decide) (by decide) k) ?_
  refine go (T' := T2) (f' := (mkF m 46 #[.val (.ref a0), .val (.int (2 : Int32)), .val (.ref a2), .val (.int (2 : Int32)), .val (.int (2 : Int32)), .val (.int (2 : Int32)), .val (.int c1)] [(.int (2 : Int32))])) (by intro t k; exact XS.iload X2.here hx rfl (hb hby d6_44) rfl k) ?_
  refine retW X2 hx (t := .int) Bd.returns rfl (Or.inl ⟨rfl, Or.inl rfl, _, rfl⟩) (hb hby d6_46) hlk (by decide) (by decide) ?_
  show Q6n2 Z a0 a2 c0 c1 h0 n0 _ T2.heap _
  rw [e2]
  have hv : (some (.int (2 : Int32)) : Option Value) = some (.int (2 : Int32)) := rfl
  exact ⟨hv, N2, KK2, V2⟩
theorem d5_0 : decode jdk_52_method_16_code 0 = .ok (.iload_n 2, 1) := by decide +kernel
theorem d5_1 : decode jdk_52_method_16_code 1 = .ok (.newarray .byte, 2) := by decide +kernel
theorem d5_3 : decode jdk_52_method_16_code 3 = .ok (.astore_n 3, 1) := by decide +kernel
theorem d5_4 : decode jdk_52_method_16_code 4 = .ok (.aload_n 0, 1) := by decide +kernel
theorem d5_5 : decode jdk_52_method_16_code 5 = .ok (.iload_n 1, 1) := by decide +kernel
theorem d5_6 : decode jdk_52_method_16_code 6 = .ok (.aload_n 3, 1) := by decide +kernel
theorem d5_7 : decode jdk_52_method_16_code 7 = .ok (.iconst 0, 1) := by decide +kernel
theorem d5_8 : decode jdk_52_method_16_code 8 = .ok (.iload_n 2, 1) := by decide +kernel
theorem d5_9 : decode jdk_52_method_16_code 9 = .ok (.invokestatic 115, 3) := by decide +kernel
theorem d5_12 : decode jdk_52_method_16_code 12 = .ok (.istore 4, 2) := by decide +kernel
theorem d5_14 : decode jdk_52_method_16_code 14 = .ok (.iload 4, 2) := by decide +kernel
theorem d5_16 : decode jdk_52_method_16_code 16 = .ok (.iload_n 2, 1) := by decide +kernel
theorem d5_17 : decode jdk_52_method_16_code 17 = .ok (.if_icmp .eq 40, 3) := by decide +kernel
theorem d5_57 : decode jdk_52_method_16_code 57 = .ok (.aload_n 3, 1) := by decide +kernel
theorem d5_58 : decode jdk_52_method_16_code 58 = .ok (.areturn, 1) := by decide +kernel
theorem pd_285bCI5bBII29I : parseMethodDescriptor "([CI[BII)I" = some ⟨[(.array .char), .int, (.array .byte), .int, .int], some .int⟩ := by decide +kernel
theorem ef_5n2 (m : MethodId) (x0 : Addr) : entryFrame m #[(.ref x0), (.int (0 : Int32)), (.int (2 : Int32))] 6 = mkF m 0 #[.val (.ref x0), .val (.int (0 : Int32)), .val (.int (2 : Int32)), .unset, .unset, .unset] [] := by first | (simp [entryFrame, mkF, argsToLocals, Value.category]; done) | rfl
def Q5n2 (Z : State) (a0 : Addr) (c0 c1 : Int32) (h0 : Heap) (n0 : Nat) (v : Option Value) (h : Heap) (L : List Loc) : Prop := ∃ r : Addr, v = some (.ref r) ∧ h0.size ≤ r ∧ Fr n0 L ∧ Keep h0 h [] ∧ Ary Z h r .byte [(.int (nar .byte ((c0).toInt8.toInt32))), (.int (nar .byte ((c1).toInt8.toInt32)))]
set_option maxRecDepth 65536 in
set_option maxHeartbeats 40000000 in
theorem rm5n2 (l : Launch) (Z : State) (aw : Array Value) (hw : ∀ d ∈ tables_1, d.before aw Z = true) (ws : List Jvm.Cond) (a0 : Addr) (c0 c1 : Int32) (h0 : Heap) (n0 : Nat) (Z0 : n0 ≤ h0.size) (A_a0 : Ary Z h0 a0 .char [(.int c0), (.int c1)]) (hu0 : ¬ ((255 : Int32) < c0)) (hu1 : ¬ ((255 : Int32) < c1)) :
    MetFree l (⟨"java/lang/StringUTF16", "compress", "([CII)[B"⟩ : MethodName) (head1 (Jvm.Cond.code (⟨"java/lang/StringUTF16", "compress", "([CII)[B"⟩ : MethodName) jdk_52_method_16_code 6 (some (.array .byte)) :: ws) ({ frames := 1, cells := 1, slots := 2, locals := 18 } : Room)) (fun a U => a = #[(.ref a0), (.int (0 : Int32)), (.int (2 : Int32))] ∧ Z.Warmed39 U.vm ∧ U.heap = h0) (fun _ _ _ _ _ => True) (fun _ U o U' => ∃ v L, o = .returned v ∧ Q5n2 Z a0 c0 c1 h0 n0 v U'.heap L ∧ FrameEnd U o U' L ({ frames := 1, cells := 1, slots := 2, locals := 18 } : Room).cells ({ frames := 1, cells := 1, slots := 2, locals := 18 } : Room).slots) := by
  refine MetFree.of_bodySF (plainFor_of_name pn_6) hisR ?_
  intro p e s m args below meth c s₁ Bd hml0 hP hK
  obtain ⟨rfl, hZ, hh⟩ := hP
  have hx := Bd.exec
  have hby := Bd.bytes
  have hml : c.maxLocals = 6 := hml0
  have hown : s.vm.findClass "java/lang/StringUTF16" = some m.cls := findClass_of_methodNamed Bd.named
  have hnm := (name_of_methodNamed Bd.named Bd.method).1
  have hlk : meth.locks = false := BodyLoose.notSynchronized Bd
  have X0 : Stand p l e ({ frames := 1, cells := 1, slots := 2, locals := 18 } : Room) s m #[(.ref a0), (.int (0 : Int32)), (.int (2 : Int32))] below meth c s₁ [] 0 0 := Stand.of_body Bd
  have e0 : s₁.heap = h0 := by rw [← hh, Bd.state]; rfl
  have N0 := Fr.nil n0
  show Run p e s below (Q5n2 Z a0 c0 c1 h0 n0) ({ frames := 1, cells := 1, slots := 2, locals := 18 } : Room).cells ({ frames := 1, cells := 1, slots := 2, locals := 18 } : Room).slots s₁ (entryFrame m #[(.ref a0), (.int (0 : Int32)), (.int (2 : Int32))] 6)
  rw [ef_5n2]
  show Run _ _ _ _ _ _ _ s₁ (mkF m 0 #[.val (.ref a0), .val (.int (0 : Int32)), .val (.int (2 : Int32)), .unset, .unset, .unset] [])
  refine go (T' := s₁) (f' := (mkF m 1 #[.val (.ref a0), .val (.int (0 : Int32)), .val (.int (2 : Int32)), .unset, .unset, .unset] [(.int (2 : Int32))])) (by intro t k; exact XS.iloadN X0.here hx rfl (hb hby d5_0) rfl k) ?_
  obtain ⟨T1, h1, kA1, X1, e1, E1, A1, EX1, st1⟩ := newPE X0 hx hZ (hw _ (List.mem_of_getElem? (i := 26) rfl)) e0 (g := (mkF m 1 #[.val (.ref a0), .val (.int (0 : Int32)), .val (.int (2 : Int32)), .unset, .unset, .unset] [(.int (2 : Int32))])) rfl (hb hby d5_1) rfl (by decide) (cap := 2) (by decide) (by decide) (by decide) (by decide) (ad := "[B") (by decide)
  obtain ⟨b1, g1⟩ : ∃ z, z = h0.size := ⟨_, rfl⟩
  rw [← g1] at A1 EX1 st1
  have ne_a0_b1 : a0 ≠ b1 := Nat.ne_of_lt (Nat.lt_of_lt_of_eq A_a0.lt g1.symm)
  have ge_b1 : n0 ≤ b1 := Nat.le_trans Z0 (Nat.le_of_eq g1.symm)
  have sz_b1 : h0.size ≤ b1 := Nat.le_trans (Keep.refl h0 []).1 (Nat.le_of_eq g1.symm)
  have K1 : Keep h0 h1 [] := (Keep.refl _ _).ext E1
  have A1_a0 := Ary.keep A_a0 K1 nin0
  have Z1 : n0 ≤ h1.size := Nat.le_trans Z0 K1.1
  have KK1 : Keep h0 h1 [] := (Keep.refl _ _).trans K1 all0
  have V1 : Ary Z h1 b1 .byte [(.int (0 : Int32)), (.int (0 : Int32))] := Ary.new A1
  refine go st1 ?_
  show Run _ _ _ _ _ _ _ T1 (mkF m 3 #[.val (.ref a0), .val (.int (0 : Int32)), .val (.int (2 : Int32)), .unset, .unset, .unset] [(.ref b1)])
  refine go (T' := T1) (f' := (mkF m 4 #[.val (.ref a0), .val (.int (0 : Int32)), .val (.int (2 : Int32)), .val (.ref b1), .unset, .unset] [])) (by intro t k; exact XS.astoreN X1.here hx rfl (hb hby d5_3) rfl rfl (l' := #[.val (.ref a0), .val (.int (0 : Int32)), .val (.int (2 : Int32)), .val (.ref b1), .unset, .unset]) rfl k) ?_
  refine go (T' := T1) (f' := (mkF m 5 #[.val (.ref a0), .val (.int (0 : Int32)), .val (.int (2 : Int32)), .val (.ref b1), .unset, .unset] [(.ref a0)])) (by intro t k; exact XS.aloadN X1.here hx rfl (hb hby d5_4) rfl rfl k) ?_
  refine go (T' := T1) (f' := (mkF m 6 #[.val (.ref a0), .val (.int (0 : Int32)), .val (.int (2 : Int32)), .val (.ref b1), .unset, .unset] [(.int (0 : Int32)), (.ref a0)])) (by intro t k; exact XS.iloadN X1.here hx rfl (hb hby d5_5) rfl k) ?_
  refine go (T' := T1) (f' := (mkF m 7 #[.val (.ref a0), .val (.int (0 : Int32)), .val (.int (2 : Int32)), .val (.ref b1), .unset, .unset] [(.ref b1), (.int (0 : Int32)), (.ref a0)])) (by intro t k; exact XS.aloadN X1.here hx rfl (hb hby d5_6) rfl rfl k) ?_
  refine go (T' := T1) (f' := (mkF m 8 #[.val (.ref a0), .val (.int (0 : Int32)), .val (.int (2 : Int32)), .val (.ref b1), .unset, .unset] [(.int (0 : Int32)), (.ref b1), (.int (0 : Int32)), (.ref a0)])) (by intro t k; exact XS.iconst X1.here hx rfl (hb hby d5_7) k) ?_
  refine go (T' := T1) (f' := (mkF m 9 #[.val (.ref a0), .val (.int (0 : Int32)), .val (.int (2 : Int32)), .val (.ref b1), .unset, .unset] [(.int (2 : Int32)), (.int (0 : Int32)), (.ref b1), (.int (0 : Int32)), (.ref a0)])) (by intro t k; exact XS.iloadN X1.here hx rfl (hb hby d5_8) rfl k) ?_
  obtain ⟨_, _, ⟨T2, Lz2, kz2, nz2⟩, -, X2, ⟨Lc2, hQ2, lz2, yz2, zz2⟩, st2⟩ := Jvm.LawKit.callS X1 hx (y := (⟨"java/lang/StringUTF16", "compress", "([CI[BII)I"⟩ : MethodName)) hown (mvT hZ (hw _ (List.mem_of_getElem? (i := 27) rfl))) (mvT hZ (hw _ (List.mem_of_getElem? (i := 28) rfl))) (mvT hZ (hw _ (List.mem_of_getElem? (i := 24) rfl))) (mvT hZ (hw _ (List.mem_of_getElem? (i := 29) rfl))) (by decide) (backOf (W := 0) (rm6n2 l Z aw hw [] a0 b1 c0 c1 h1 n0 Z1 A1_a0 V1 ne_a0_b1 ge_b1 hu0 hu1) hZ (hw _ (List.mem_of_getElem? (i := 29) rfl)) (hw _ (List.mem_of_getElem? (i := 24) rfl)) (by decide) (by decide)) (g := (mkF m 9 #[.val (.ref a0), .val (.int (0 : Int32)), .val (.int (2 : Int32)), .val (.ref b1), .unset, .unset] [(.int (2 : Int32)), (.int (0 : Int32)), (.ref b1), (.int (0 : Int32)), (.ref a0)])) rfl (by rw [hml]; rfl) (argsL := [(.ref a0), (.int (0 : Int32)), (.ref b1), (.int (0 : Int32)), (.int (2 : Int32))]) (rest := []) (lenOf pd_285bCI5bBII29I rfl) rfl (by show 2 * 0 + _ ≤ _; exact Nat.le_of_eq rfl) (hb hby d5_9) (fun _ _ => ⟨rfl, e1, (by decide : 1 + 0 ≤ _), (by decide : 2 + 0 ≤ _)⟩)
  dsimp only [Pt.U, Pt.locs, Pt.cells, Pt.slots] at X2 lz2 yz2 zz2 st2 hQ2
  subst lz2 yz2 zz2
  obtain ⟨rfl, N2q, K2, Aq2⟩ := hQ2
  have E2_b1 := Exa.keep EX1 K2
  have A2_a0 := Ary.keep A1_a0 K2 (ninS ne_a0_b1 nin0)
  have Z2 : n0 ≤ T2.heap.size := Nat.le_trans Z1 K2.1
  have KK2 : Keep h0 T2.heap [] := KK1.trans K2 (allS (Or.inr sz_b1) all0)
  have N2 := Fr.app N0 N2q
  refine go st2 ?_
  show Run _ _ _ _ _ _ _ T2 (mkF m 12 #[.val (.ref a0), .val (.int (0 : Int32)), .val (.int (2 : Int32)), .val (.ref b1), .unset, .unset] [(.int (2 : Int32))])
  refine go (T' := T2) (f' := (mkF m 14 #[.val (.ref a0), .val (.int (0 : Int32)), .val (.int (2 : Int32)), .val (.ref b1), .val (.int (2 : Int32)), .unset] [])) (by intro t k; exact XS.istore X2.here hx rfl (hb hby d5_12) rfl (l' := #[.val (.ref a0), .val (.int (0 : Int32)), .val (.int (2 : Int32)), .val (.ref b1), .val (.int (2 : Int32)), .unset]) rfl k) ?_
  refine go (T' := T2) (f' := (mkF m 16 #[.val (.ref a0), .val (.int (0 : Int32)), .val (.int (2 : Int32)), .val (.ref b1), .val (.int (2 : Int32)), .unset] [(.int (2 : Int32))])) (by intro t k; exact XS.iload X2.here hx rfl (hb hby d5_14) rfl k) ?_
  refine go (T' := T2) (f' := (mkF m 17 #[.val (.ref a0), .val (.int (0 : Int32)), .val (.int (2 : Int32)), .val (.ref b1), .val (.int (2 : Int32)), .unset] [(.int (2 : Int32)), (.int (2 : Int32))])) (by intro t k; exact XS.iloadN X2.here hx rfl (hb hby d5_16) rfl k) ?_
  refine go (T' := T2) (f' := (mkF m 57 #[.val (.ref a0), .val (.int (0 : Int32)), .val (.int (2 : Int32)), .val (.ref b1), .val (.int (2 : Int32)), .unset] [])) (by intro t k; exact XS.icmpYes X2.here hx rfl (pc0 := 17) (pc' := 57) rfl (hb hby d5_17) rfl (teq (rfl : (2 : Int32) = (2 : Int32))).1 (by decide) (by decide) k) ?_
  refine go (T' := T2) (f' := (mkF m 58 #[.val (.ref a0), .val (.int (0 : Int32)), .val (.int (2 : Int32)), .val (.ref b1), .val (.int (2 : Int32)), .unset] [(.ref b1)])) (by intro t k; exact XS.aloadN X2.here hx rfl (hb hby d5_57) rfl rfl k) ?_
  refine retW X2 hx (t := (.array .byte)) Bd.returns rfl (Or.inr (Or.inr (Or.inr (Or.inr ⟨rfl, rfl, rfl⟩)))) (hb hby d5_58) hlk (by decide) (by decide) ?_
  show Q5n2 Z a0 c0 c1 h0 n0 _ T2.heap _
  have hv : h0.size ≤ b1 := by
    exact sz_b1
  exact ⟨_, rfl, hv, N2, KK2, Aq2⟩
theorem d7_0 : decode jdk_52_method_15_code 0 = .ok (.iload_n 1, 1) := by decide +kernel
theorem d7_1 : decode jdk_52_method_15_code 1 = .ok (.aload_n 0, 1) := by decide +kernel
theorem d7_2 : decode jdk_52_method_15_code 2 = .ok (.arraylength, 1) := by decide +kernel
theorem d7_3 : decode jdk_52_method_15_code 3 = .ok (.isub, 1) := by decide +kernel
theorem d7_4 : decode jdk_52_method_15_code 4 = .ok (.bipush 31, 2) := by decide +kernel
theorem d7_6 : decode jdk_52_method_15_code 6 = .ok (.iushr, 1) := by decide +kernel
theorem d7_7 : decode jdk_52_method_15_code 7 = .ok (.i2b, 1) := by decide +kernel
theorem d7_8 : decode jdk_52_method_15_code 8 = .ok (.ireturn, 1) := by decide +kernel
theorem ef_7n2 (m : MethodId) (x0 : Addr) : entryFrame m #[(.ref x0), (.int (2 : Int32))] 2 = mkF m 0 #[.val (.ref x0), .val (.int (2 : Int32))] [] := by first | (simp [entryFrame, mkF, argsToLocals, Value.category]; done) | rfl
def Q7n2 (Z : State) (a0 : Addr) (vs : List Value) (h0 : Heap) (n0 : Nat) (v : Option Value) (h : Heap) (L : List Loc) : Prop := v = some (.int (0 : Int32)) ∧ Fr n0 L ∧ h = h0
set_option maxRecDepth 65536 in
set_option maxHeartbeats 40000000 in
theorem rm7n2 (l : Launch) (Z : State) (aw : Array Value) (hw : ∀ d ∈ tables_1, d.before aw Z = true) (ws : List Jvm.Cond) (a0 : Addr) (vs : List Value) (h0 : Heap) (n0 : Nat) (Z0 : n0 ≤ h0.size) (A_a0 : Ary Z h0 a0 .byte vs) (hlen : vs.length.toInt32 = (2 : Int32)) :
    MetFree l (⟨"java/lang/StringUTF16", "coderFromArrayLen", "([BI)B"⟩ : MethodName) (head1 (Jvm.Cond.code (⟨"java/lang/StringUTF16", "coderFromArrayLen", "([BI)B"⟩ : MethodName) jdk_52_method_15_code 2 (some .byte) :: ws) ({ frames := 0, cells := 0, slots := 0, locals := 0 } : Room)) (fun a U => a = #[(.ref a0), (.int (2 : Int32))] ∧ Z.Warmed39 U.vm ∧ U.heap = h0) (fun _ _ _ _ _ => True) (fun _ U o U' => ∃ v L, o = .returned v ∧ Q7n2 Z a0 vs h0 n0 v U'.heap L ∧ FrameEnd U o U' L ({ frames := 0, cells := 0, slots := 0, locals := 0 } : Room).cells ({ frames := 0, cells := 0, slots := 0, locals := 0 } : Room).slots) := by
  refine MetFree.of_bodySF (plainFor_of_name pn_6) hisR ?_
  intro p e s m args below meth c s₁ Bd hml0 hP hK
  obtain ⟨rfl, hZ, hh⟩ := hP
  have hx := Bd.exec
  have hby := Bd.bytes
  have hml : c.maxLocals = 2 := hml0
  have hown : s.vm.findClass "java/lang/StringUTF16" = some m.cls := findClass_of_methodNamed Bd.named
  have hnm := (name_of_methodNamed Bd.named Bd.method).1
  have hlk : meth.locks = false := BodyLoose.notSynchronized Bd
  have X0 : Stand p l e ({ frames := 0, cells := 0, slots := 0, locals := 0 } : Room) s m #[(.ref a0), (.int (2 : Int32))] below meth c s₁ [] 0 0 := Stand.of_body Bd
  have e0 : s₁.heap = h0 := by rw [← hh, Bd.state]; rfl
  have N0 := Fr.nil n0
  show Run p e s below (Q7n2 Z a0 vs h0 n0) ({ frames := 0, cells := 0, slots := 0, locals := 0 } : Room).cells ({ frames := 0, cells := 0, slots := 0, locals := 0 } : Room).slots s₁ (entryFrame m #[(.ref a0), (.int (2 : Int32))] 2)
  rw [ef_7n2]
  show Run _ _ _ _ _ _ _ s₁ (mkF m 0 #[.val (.ref a0), .val (.int (2 : Int32))] [])
  refine go (T' := s₁) (f' := (mkF m 1 #[.val (.ref a0), .val (.int (2 : Int32))] [(.int (2 : Int32))])) (by intro t k; exact XS.iloadN X0.here hx rfl (hb hby d7_0) rfl k) ?_
  refine go (T' := s₁) (f' := (mkF m 2 #[.val (.ref a0), .val (.int (2 : Int32))] [(.ref a0), (.int (2 : Int32))])) (by intro t k; exact XS.aloadN X0.here hx rfl (hb hby d7_1) rfl rfl k) ?_
  refine go (T' := s₁) (f' := (mkF m 3 #[.val (.ref a0), .val (.int (2 : Int32))] [(.int (2 : Int32)), (.int (2 : Int32))])) (by intro t k; exact alen X0 hx hZ e0 A_a0 (z := (2 : Int32)) hlen (g := (mkF m 2 #[.val (.ref a0), .val (.int (2 : Int32))] [(.ref a0), (.int (2 : Int32))])) rfl rfl (hb hby d7_2) _ k) ?_
  refine go (T' := s₁) (f' := (mkF m 4 #[.val (.ref a0), .val (.int (2 : Int32))] [(.int (0 : Int32))])) (by intro t k; exact XS.isub X0.here hx rfl (hb hby d7_3) rfl k) ?_
  refine go (T' := s₁) (f' := (mkF m 6 #[.val (.ref a0), .val (.int (2 : Int32))] [(.int (31 : Int32)), (.int (0 : Int32))])) (by intro t k; exact XS.bipush X0.here hx rfl (hb hby d7_4) k) ?_
  refine go (T' := s₁) (f' := (mkF m 7 #[.val (.ref a0), .val (.int (2 : Int32))] [(.int (0 : Int32))])) (by intro t k; exact XS.iushr X0.here hx rfl (hb hby d7_6) rfl k) ?_
  refine go (T' := s₁) (f' := (mkF m 8 #[.val (.ref a0), .val (.int (2 : Int32))] [(.int (0 : Int32))])) (by intro t k; exact XS.i2b X0.here hx rfl (hb hby d7_7) rfl k) ?_
  refine retZ X0 hx (t := .byte) Bd.returns (by simp) (hb hby d7_8) hlk (by decide) (by decide) ?_
  show Q7n2 Z a0 vs h0 n0 _ s₁.heap _
  rw [e0]
  have hv' : (nar .byte (0 : Int32)) = (0 : Int32) := by
    rfl
  have hv : (some (.int (nar .byte (0 : Int32))) : Option Value) = some (.int (0 : Int32)) := congrArg (fun z => (some (.int z) : Option Value)) hv'
  exact ⟨hv, N0, rfl⟩
theorem d3_0 : decode jdk_42_method_149_code 0 = .ok (.aload_n 0, 1) := by decide +kernel
theorem d3_1 : decode jdk_42_method_149_code 1 = .ok (.invokespecial 1, 3) := by decide +kernel
theorem d3_4 : decode jdk_42_method_149_code 4 = .ok (.iload_n 3, 1) := by decide +kernel
theorem d3_5 : decode jdk_42_method_149_code 5 = .ok (.ifCond .ne 22, 3) := by decide +kernel
theorem d3_27 : decode jdk_42_method_149_code 27 = .ok (.getstatic 38, 3) := by decide +kernel
theorem d3_30 : decode jdk_42_method_149_code 30 = .ok (.ifCond .eq 28, 3) := by decide +kernel
theorem d3_33 : decode jdk_42_method_149_code 33 = .ok (.aload_n 1, 1) := by decide +kernel
theorem d3_34 : decode jdk_42_method_149_code 34 = .ok (.iload_n 2, 1) := by decide +kernel
theorem d3_35 : decode jdk_42_method_149_code 35 = .ok (.iload_n 3, 1) := by decide +kernel
theorem d3_36 : decode jdk_42_method_149_code 36 = .ok (.invokestatic 177, 3) := by decide +kernel
theorem d3_39 : decode jdk_42_method_149_code 39 = .ok (.astore 5, 2) := by decide +kernel
theorem d3_41 : decode jdk_42_method_149_code 41 = .ok (.aload_n 0, 1) := by decide +kernel
theorem d3_42 : decode jdk_42_method_149_code 42 = .ok (.aload 5, 2) := by decide +kernel
theorem d3_44 : decode jdk_42_method_149_code 44 = .ok (.iload_n 3, 1) := by decide +kernel
theorem d3_45 : decode jdk_42_method_149_code 45 = .ok (.invokestatic 47, 3) := by decide +kernel
theorem d3_48 : decode jdk_42_method_149_code 48 = .ok (.putfield 15, 3) := by decide +kernel
theorem d3_51 : decode jdk_42_method_149_code 51 = .ok (.aload_n 0, 1) := by decide +kernel
theorem d3_52 : decode jdk_42_method_149_code 52 = .ok (.aload 5, 2) := by decide +kernel
theorem d3_54 : decode jdk_42_method_149_code 54 = .ok (.putfield 9, 3) := by decide +kernel
theorem d3_57 : decode jdk_42_method_149_code 57 = .ok (.return_, 1) := by decide +kernel
theorem pd_285bCII295bB : parseMethodDescriptor "([CII)[B" = some ⟨[(.array .char), .int, .int], some (.array .byte)⟩ := by decide +kernel
theorem pd_285bBI29B : parseMethodDescriptor "([BI)B" = some ⟨[(.array .byte), .int], some .byte⟩ := by decide +kernel
theorem ef_3n2 (m : MethodId) (x0 : Addr) (x1 : Addr) : entryFrame m #[(.ref x0), (.ref x1), (.int (0 : Int32)), (.int (2 : Int32)), .null] 6 = mkF m 0 #[.val (.ref x0), .val (.ref x1), .val (.int (0 : Int32)), .val (.int (2 : Int32)), .val .null, .unset] [] := by first | (simp [entryFrame, mkF, argsToLocals, Value.category]; done) | rfl
def Q3n2 (Z : State) (a0 : Addr) (a1 : Addr) (cs : Int32) (c0 c1 : Int32) (h0 : Heap) (n0 : Nat) (v : Option Value) (h : Heap) (L : List Loc) : Prop := v = none ∧ Fr n0 L ∧ Keep h0 h [a0] ∧ ∃ b, h0.size ≤ b ∧ Fld Z h a0 "java/lang/String" "coder" "B" (.int (0 : Int32)) ∧ Fld Z h a0 "java/lang/String" "value" "[B" (.ref b) ∧ Ary Z h b .byte [(.int (nar .byte ((c0).toInt8.toInt32))), (.int (nar .byte ((c1).toInt8.toInt32)))]
set_option maxRecDepth 65536 in
set_option maxHeartbeats 40000000 in
theorem rm3n2 (l : Launch) (Z : State) (aw : Array Value) (hw : ∀ d ∈ tables_1, d.before aw Z = true) (ws : List Jvm.Cond) (a0 : Addr) (a1 : Addr) (cs : Int32) (c0 c1 : Int32) (h0 : Heap) (n0 : Nat) (Z0 : n0 ≤ h0.size) (O0 : Old Z n0 h0) (S_cs : Sta Z Z.heap "java/lang/String" "COMPACT_STRINGS" "Z" (.int cs)) (hcs : ¬ (cs = (0 : Int32))) (E_a0 : Exa Z h0 a0 "java/lang/String") (F_c : Fld Z h0 a0 "java/lang/String" "coder" "B" (.int (0 : Int32))) (F_v : Fld Z h0 a0 "java/lang/String" "value" "[B" .null) (g_a0 : n0 ≤ a0) (A_a1 : Ary Z h0 a1 .char [(.int c0), (.int c1)]) (n_01 : a0 ≠ a1) (hu0 : ¬ ((255 : Int32) < c0)) (hu1 : ¬ ((255 : Int32) < c1)) :
    MetFree l (⟨"java/lang/String", "<init>", "([CIILjava/lang/Void;)V"⟩ : MethodName) (head1 (Jvm.Cond.code (⟨"java/lang/String", "<init>", "([CIILjava/lang/Void;)V"⟩ : MethodName) jdk_42_method_149_code 6 none :: ws) ({ frames := 2, cells := 1, slots := 2, locals := 35 } : Room)) (fun a U => a = #[(.ref a0), (.ref a1), (.int (0 : Int32)), (.int (2 : Int32)), .null] ∧ Z.Warmed39 U.vm ∧ U.heap = h0) (fun _ _ _ _ _ => True) (fun _ U o U' => ∃ v L, o = .returned v ∧ Q3n2 Z a0 a1 cs c0 c1 h0 n0 v U'.heap L ∧ FrameEnd U o U' L ({ frames := 2, cells := 1, slots := 2, locals := 35 } : Room).cells ({ frames := 2, cells := 1, slots := 2, locals := 35 } : Room).slots) := by
  refine MetFree.of_bodySF (plainFor_of_name pn_13) hisR ?_
  intro p e s m args below meth c s₁ Bd hml0 hP hK
  obtain ⟨rfl, hZ, hh⟩ := hP
  have hx := Bd.exec
  have hby := Bd.bytes
  have hml : c.maxLocals = 6 := hml0
  have hown : s.vm.findClass "java/lang/String" = some m.cls := findClass_of_methodNamed Bd.named
  have hnm := (name_of_methodNamed Bd.named Bd.method).1
  have hlk : meth.locks = false := BodyLoose.notSynchronized Bd
  have X0 : Stand p l e ({ frames := 2, cells := 1, slots := 2, locals := 35 } : Room) s m #[(.ref a0), (.ref a1), (.int (0 : Int32)), (.int (2 : Int32)), .null] below meth c s₁ [] 0 0 := Stand.of_body Bd
  have e0 : s₁.heap = h0 := by rw [← hh, Bd.state]; rfl
  have N0 := Fr.nil n0
  show Run p e s below (Q3n2 Z a0 a1 cs c0 c1 h0 n0) ({ frames := 2, cells := 1, slots := 2, locals := 35 } : Room).cells ({ frames := 2, cells := 1, slots := 2, locals := 35 } : Room).slots s₁ (entryFrame m #[(.ref a0), (.ref a1), (.int (0 : Int32)), (.int (2 : Int32)), .null] 6)
  rw [ef_3n2]
  show Run _ _ _ _ _ _ _ s₁ (mkF m 0 #[.val (.ref a0), .val (.ref a1), .val (.int (0 : Int32)), .val (.int (2 : Int32)), .val .null, .unset] [])
  refine go (T' := s₁) (f' := (mkF m 1 #[.val (.ref a0), .val (.ref a1), .val (.int (0 : Int32)), .val (.int (2 : Int32)), .val .null, .unset] [(.ref a0)])) (by intro t k; exact XS.aloadN X0.here hx rfl (hb hby d3_0) rfl rfl k) ?_
  obtain ⟨T1, X1, e1, st1⟩ := initO X0 hx hZ hown (hw _ (List.mem_of_getElem? (i := 18) rfl)) (hw _ (List.mem_of_getElem? (i := 19) rfl)) (hw _ (List.mem_of_getElem? (i := 20) rfl)) e0 (g := (mkF m 1 #[.val (.ref a0), .val (.ref a1), .val (.int (0 : Int32)), .val (.int (2 : Int32)), .val .null, .unset] [(.ref a0)])) rfl (by rw [hml]; rfl) rfl (hb hby d3_1) (by decide) (W := 0) (by show 2 * 0 + _ ≤ _; exact Nat.le_of_eq rfl) (by decide)
  refine go st1 ?_
  show Run _ _ _ _ _ _ _ T1 (mkF m 4 #[.val (.ref a0), .val (.ref a1), .val (.int (0 : Int32)), .val (.int (2 : Int32)), .val .null, .unset] [])
  refine go (T' := T1) (f' := (mkF m 5 #[.val (.ref a0), .val (.ref a1), .val (.int (0 : Int32)), .val (.int (2 : Int32)), .val .null, .unset] [(.int (2 : Int32))])) (by intro t k; exact XS.iloadN X1.here hx rfl (hb hby d3_4) rfl k) ?_
  refine go (T' := T1) (f' := (mkF m 27 #[.val (.ref a0), .val (.ref a1), .val (.int (0 : Int32)), .val (.int (2 : Int32)), .val .null, .unset] [])) (by intro t k; exact XS.ifYes X1.here hx rfl (pc0 := 5) (pc' := 27) rfl (hb hby d3_5) rfl ((if0 _ _).trans (feq (by decide : ¬ ((2 : Int32) = (0 : Int32)))).2) (by decide) (by decide) k) ?_
  obtain ⟨T2, X2, e2, st2⟩ := getS2 X1 hx hZ hown (host := "") (Or.inl (hw _ (List.mem_of_getElem? (i := 21) rfl))) Via.refl e1 (S_cs.ext O0.2) (g := (mkF m 27 #[.val (.ref a0), .val (.ref a1), .val (.int (0 : Int32)), .val (.int (2 : Int32)), .val .null, .unset] [])) rfl (hb hby d3_27)
  refine go st2 ?_
  show Run _ _ _ _ _ _ _ T2 (mkF m 30 #[.val (.ref a0), .val (.ref a1), .val (.int (0 : Int32)), .val (.int (2 : Int32)), .val .null, .unset] [(.int cs)])
  refine go (T' := T2) (f' := (mkF m 33 #[.val (.ref a0), .val (.ref a1), .val (.int (0 : Int32)), .val (.int (2 : Int32)), .val .null, .unset] [])) (by intro t k; exact XS.ifNo X2.here hx rfl (hb hby d3_30) rfl ((if0 _ _).trans (feq (hcs : ¬ (cs = (0 : Int32)))).1) k) ?_
  refine go (T' := T2) (f' := (mkF m 34 #[.val (.ref a0), .val (.ref a1), .val (.int (0 : Int32)), .val (.int (2 : Int32)), .val .null, .unset] [(.ref a1)])) (by intro t k; exact XS.aloadN X2.here hx rfl (hb hby d3_33) rfl rfl k) ?_
  refine go (T' := T2) (f' := (mkF m 35 #[.val (.ref a0), .val (.ref a1), .val (.int (0 : Int32)), .val (.int (2 : Int32)), .val .null, .unset] [(.int (0 : Int32)), (.ref a1)])) (by intro t k; exact XS.iloadN X2.here hx rfl (hb hby d3_34) rfl k) ?_
  refine go (T' := T2) (f' := (mkF m 36 #[.val (.ref a0), .val (.ref a1), .val (.int (0 : Int32)), .val (.int (2 : Int32)), .val .null, .unset] [(.int (2 : Int32)), (.int (0 : Int32)), (.ref a1)])) (by intro t k; exact XS.iloadN X2.here hx rfl (hb hby d3_35) rfl k) ?_
  obtain ⟨_, _, ⟨T3, Lz3, kz3, nz3⟩, -, X3, ⟨Lc3, hQ3, lz3, yz3, zz3⟩, st3⟩ := Jvm.LawKit.callS X2 hx (y := (⟨"java/lang/StringUTF16", "compress", "([CII)[B"⟩ : MethodName)) hown (mvT hZ (hw _ (List.mem_of_getElem? (i := 22) rfl))) (mvT hZ (hw _ (List.mem_of_getElem? (i := 23) rfl))) (mvT hZ (hw _ (List.mem_of_getElem? (i := 24) rfl))) (mvT hZ (hw _ (List.mem_of_getElem? (i := 25) rfl))) (by decide) (backOf (W := 0) (rm5n2 l Z aw hw [] a1 c0 c1 h0 n0 Z0 A_a1 hu0 hu1) hZ (hw _ (List.mem_of_getElem? (i := 25) rfl)) (hw _ (List.mem_of_getElem? (i := 24) rfl)) (by decide) (by decide)) (g := (mkF m 36 #[.val (.ref a0), .val (.ref a1), .val (.int (0 : Int32)), .val (.int (2 : Int32)), .val .null, .unset] [(.int (2 : Int32)), (.int (0 : Int32)), (.ref a1)])) rfl (by rw [hml]; rfl) (argsL := [(.ref a1), (.int (0 : Int32)), (.int (2 : Int32))]) (rest := []) (lenOf pd_285bCII295bB rfl) rfl (by show 2 * 0 + _ ≤ _; exact Nat.le_of_eq rfl) (hb hby d3_36) (fun _ _ => ⟨rfl, e2, (by decide : 0 + 1 ≤ _), (by decide : 0 + 2 ≤ _)⟩)
  dsimp only [Pt.U, Pt.locs, Pt.cells, Pt.slots] at X3 lz3 yz3 zz3 st3 hQ3
  subst lz3 yz3 zz3
  obtain ⟨r3, rfl, sz3, N3q, K3, Aq3⟩ := hQ3
  have ne_a0_r3 : a0 ≠ r3 := Nat.ne_of_lt (Nat.lt_of_lt_of_le E_a0.lt sz3)
  have ne_a1_r3 : a1 ≠ r3 := Nat.ne_of_lt (Nat.lt_of_lt_of_le A_a1.lt sz3)
  have ge_r3 : n0 ≤ r3 := Nat.le_trans Z0 sz3
  have sz_r3 : h0.size ≤ r3 := Nat.le_trans (Keep.refl h0 []).1 sz3
  have E3_a0 := Exa.keep E_a0 K3
  have F3_a0_coder := Fld.keep F_c K3 nin0
  have F3_a0_value := Fld.keep F_v K3 nin0
  have A3_a1 := Ary.keep A_a1 K3 nin0
  have O3 : Old Z n0 T3.heap := O0.keep K3 all0
  have Z3 : n0 ≤ T3.heap.size := Nat.le_trans Z0 K3.1
  have KK3 : Keep h0 T3.heap [a0] := (Keep.refl _ _).trans K3 all0
  have N3 := Fr.app N0 N3q
  refine go st3 ?_
  show Run _ _ _ _ _ _ _ T3 (mkF m 39 #[.val (.ref a0), .val (.ref a1), .val (.int (0 : Int32)), .val (.int (2 : Int32)), .val .null, .unset] [(.ref r3)])
  refine go (T' := T3) (f' := (mkF m 41 #[.val (.ref a0), .val (.ref a1), .val (.int (0 : Int32)), .val (.int (2 : Int32)), .val .null, .val (.ref r3)] [])) (by intro t k; exact XS.astore X3.here hx rfl (hb hby d3_39) rfl rfl (l' := #[.val (.ref a0), .val (.ref a1), .val (.int (0 : Int32)), .val (.int (2 : Int32)), .val .null, .val (.ref r3)]) rfl k) ?_
  refine go (T' := T3) (f' := (mkF m 42 #[.val (.ref a0), .val (.ref a1), .val (.int (0 : Int32)), .val (.int (2 : Int32)), .val .null, .val (.ref r3)] [(.ref a0)])) (by intro t k; exact XS.aloadN X3.here hx rfl (hb hby d3_41) rfl rfl k) ?_
  refine go (T' := T3) (f' := (mkF m 44 #[.val (.ref a0), .val (.ref a1), .val (.int (0 : Int32)), .val (.int (2 : Int32)), .val .null, .val (.ref r3)] [(.ref r3), (.ref a0)])) (by intro t k; exact XS.aload X3.here hx rfl (hb hby d3_42) rfl rfl k) ?_
  refine go (T' := T3) (f' := (mkF m 45 #[.val (.ref a0), .val (.ref a1), .val (.int (0 : Int32)), .val (.int (2 : Int32)), .val .null, .val (.ref r3)] [(.int (2 : Int32)), (.ref r3), (.ref a0)])) (by intro t k; exact XS.iloadN X3.here hx rfl (hb hby d3_44) rfl k) ?_
  obtain ⟨_, _, ⟨T4, Lz4, kz4, nz4⟩, -, X4, ⟨Lc4, hQ4, lz4, yz4, zz4⟩, st4⟩ := Jvm.LawKit.callS X3 hx (y := (⟨"java/lang/StringUTF16", "coderFromArrayLen", "([BI)B"⟩ : MethodName)) hown (mvT hZ (hw _ (List.mem_of_getElem? (i := 30) rfl))) (mvT hZ (hw _ (List.mem_of_getElem? (i := 31) rfl))) (mvT hZ (hw _ (List.mem_of_getElem? (i := 24) rfl))) (mvT hZ (hw _ (List.mem_of_getElem? (i := 32) rfl))) (by decide) (backOf (W := 1) (rm7n2 l Z aw hw [] r3 [(.int (nar .byte ((c0).toInt8.toInt32))), (.int (nar .byte ((c1).toInt8.toInt32)))] T3.heap n0 Z3 Aq3 rfl) hZ (hw _ (List.mem_of_getElem? (i := 32) rfl)) (hw _ (List.mem_of_getElem? (i := 24) rfl)) (by decide) (by decide)) (g := (mkF m 45 #[.val (.ref a0), .val (.ref a1), .val (.int (0 : Int32)), .val (.int (2 : Int32)), .val .null, .val (.ref r3)] [(.int (2 : Int32)), (.ref r3), (.ref a0)])) rfl (by rw [hml]; rfl) (argsL := [(.ref r3), (.int (2 : Int32))]) (rest := [(.ref a0)]) (lenOf pd_285bBI29B rfl) rfl (by show 2 * 0 + _ ≤ _; exact Nat.le_of_eq rfl) (hb hby d3_45) (fun _ _ => ⟨rfl, rfl, (by decide : 1 + 0 ≤ _), (by decide : 2 + 0 ≤ _)⟩)
  dsimp only [Pt.U, Pt.locs, Pt.cells, Pt.slots] at X4 lz4 yz4 zz4 st4 hQ4
  subst lz4 yz4 zz4
  obtain ⟨rfl, N4q, e4⟩ := hQ4
  have N4 := Fr.app N3 N4q
  refine go st4 ?_
  show Run _ _ _ _ _ _ _ T4 (mkF m 48 #[.val (.ref a0), .val (.ref a1), .val (.int (0 : Int32)), .val (.int (2 : Int32)), .val .null, .val (.ref r3)] [(.int (0 : Int32)), (.ref a0)])
  obtain ⟨T5, h5, X5, e5, W5, st5⟩ := putFN X4 hx hZ hown (hw _ (List.mem_of_getElem? (i := 33) rfl)) Via.refl e4 F3_a0_coder E3_a0 (Or.inr ⟨(hw _ (List.mem_of_getElem? (i := 34) rfl)), rfl, hnm⟩) (hw _ (List.mem_of_getElem? (i := 9) rfl)) (ty := .byte) (v' := (.int (0 : Int32))) (by decide) rfl rfl (g := (mkF m 48 #[.val (.ref a0), .val (.ref a1), .val (.int (0 : Int32)), .val (.int (2 : Int32)), .val .null, .val (.ref r3)] [(.int (0 : Int32)), (.ref a0)])) rfl rfl (hb hby d3_48)
  have K5 : Keep T3.heap h5 [a0] := Keep.of_wr W5
  have F5_a0_coder : Fld Z h5 a0 "java/lang/String" "coder" "B" (.int (0 : Int32)) := F3_a0_coder.same W5
  have F5_a0_value := Fld.other W5 F3_a0_value (Or.inr (slot_ne (Or.inr (hw _ (List.mem_of_getElem? (i := 36) rfl))) (Or.inr (hw _ (List.mem_of_getElem? (i := 34) rfl))) (by decide) (t := (.array .byte)) (t' := .byte) (by decide) (by decide)))
  have N5 := Fr.snoc X5 N4 g_a0
  have E5_a0 := Exa.keep E3_a0 K5
  have A5_a1 := Ary.keep A3_a1 K5 (ninS (Ne.symm n_01) nin0)
  have A5_r3 := Ary.keep Aq3 K5 (ninS (Ne.symm ne_a0_r3) nin0)
  have O5 : Old Z n0 h5 := O3.keep K5 (allS g_a0 all0)
  have Z5 : n0 ≤ h5.size := Nat.le_trans Z3 K5.1
  have KK5 : Keep h0 h5 [a0] := KK3.trans K5 (allS (Or.inl (List.mem_of_getElem? (i := 0) rfl)) all0)
  refine go st5 ?_
  show Run _ _ _ _ _ _ _ T5 (mkF m 51 #[.val (.ref a0), .val (.ref a1), .val (.int (0 : Int32)), .val (.int (2 : Int32)), .val .null, .val (.ref r3)] [])
  refine go (T' := T5) (f' := (mkF m 52 #[.val (.ref a0), .val (.ref a1), .val (.int (0 : Int32)), .val (.int (2 : Int32)), .val .null, .val (.ref r3)] [(.ref a0)])) (by intro t k; exact XS.aloadN X5.here hx rfl (hb hby d3_51) rfl rfl k) ?_
  refine go (T' := T5) (f' := (mkF m 54 #[.val (.ref a0), .val (.ref a1), .val (.int (0 : Int32)), .val (.int (2 : Int32)), .val .null, .val (.ref r3)] [(.ref r3), (.ref a0)])) (by intro t k; exact XS.aload X5.here hx rfl (hb hby d3_52) rfl rfl k) ?_
  obtain ⟨T6, h6, X6, e6, W6, st6⟩ := putF X5 hx hZ hown (host := "") (Or.inl (hw _ (List.mem_of_getElem? (i := 35) rfl))) Via.refl e5 F5_a0_value E5_a0 (Or.inr ⟨(hw _ (List.mem_of_getElem? (i := 36) rfl)), rfl, hnm⟩) (hw _ (List.mem_of_getElem? (i := 9) rfl)) (ty := (.array .byte)) (by decide) rfl rfl (g := (mkF m 54 #[.val (.ref a0), .val (.ref a1), .val (.int (0 : Int32)), .val (.int (2 : Int32)), .val .null, .val (.ref r3)] [(.ref r3), (.ref a0)])) rfl rfl (hb hby d3_54)
  have K6 : Keep h5 h6 [a0] := Keep.of_wr W6
  have F6_a0_coder := Fld.other W6 F5_a0_coder (Or.inr (slot_ne (Or.inr (hw _ (List.mem_of_getElem? (i := 34) rfl))) (Or.inr (hw _ (List.mem_of_getElem? (i := 36) rfl))) (by decide) (t := .byte) (t' := (.array .byte)) (by decide) (by decide)))
  have F6_a0_value : Fld Z h6 a0 "java/lang/String" "value" "[B" (.ref r3) := F5_a0_value.same W6
  have N6 := Fr.snoc X6 N5 g_a0
  have E6_a0 := Exa.keep E5_a0 K6
  have A6_a1 := Ary.keep A5_a1 K6 (ninS (Ne.symm n_01) nin0)
  have A6_r3 := Ary.keep A5_r3 K6 (ninS (Ne.symm ne_a0_r3) nin0)
  have O6 : Old Z n0 h6 := O5.keep K6 (allS g_a0 all0)
  have Z6 : n0 ≤ h6.size := Nat.le_trans Z5 K6.1
  have KK6 : Keep h0 h6 [a0] := KK5.trans K6 (allS (Or.inl (List.mem_of_getElem? (i := 0) rfl)) all0)
  refine go st6 ?_
  show Run _ _ _ _ _ _ _ T6 (mkF m 57 #[.val (.ref a0), .val (.ref a1), .val (.int (0 : Int32)), .val (.int (2 : Int32)), .val .null, .val (.ref r3)] [])
  refine retV X6 hx Bd.returns (hb hby d3_57) hlk (by decide) (by decide) ?_
  show Q3n2 Z a0 a1 cs c0 c1 h0 n0 _ T6.heap _
  rw [e6]
  exact ⟨rfl, N6, KK6, ⟨_, sz_r3, F6_a0_coder, F6_a0_value, A6_r3⟩⟩
theorem d2_0 : decode jdk_42_method_3_code 0 = .ok (.aload_n 0, 1) := by decide +kernel
theorem d2_1 : decode jdk_42_method_3_code 1 = .ok (.aload_n 1, 1) := by decide +kernel
theorem d2_2 : decode jdk_42_method_3_code 2 = .ok (.iconst 0, 1) := by decide +kernel
theorem d2_3 : decode jdk_42_method_3_code 3 = .ok (.aload_n 1, 1) := by decide +kernel
theorem d2_4 : decode jdk_42_method_3_code 4 = .ok (.arraylength, 1) := by decide +kernel
theorem d2_5 : decode jdk_42_method_3_code 5 = .ok (.aconst_null, 1) := by decide +kernel
theorem d2_6 : decode jdk_42_method_3_code 6 = .ok (.invokespecial 27, 3) := by decide +kernel
theorem d2_9 : decode jdk_42_method_3_code 9 = .ok (.return_, 1) := by decide +kernel
theorem pd_285bCIILjava2flang2fVoid3b29V : parseMethodDescriptor "([CIILjava/lang/Void;)V" = some ⟨[(.array .char), .int, .int, (.object "java/lang/Void")], none⟩ := by decide +kernel
theorem ef_2n2 (m : MethodId) (x0 : Addr) (x1 : Addr) : entryFrame m #[(.ref x0), (.ref x1)] 2 = mkF m 0 #[.val (.ref x0), .val (.ref x1)] [] := by first | (simp [entryFrame, mkF, argsToLocals, Value.category]; done) | rfl
def Q2n2 (Z : State) (a0 : Addr) (a1 : Addr) (cs : Int32) (c0 c1 : Int32) (h0 : Heap) (n0 : Nat) (v : Option Value) (h : Heap) (L : List Loc) : Prop := v = none ∧ Fr n0 L ∧ Keep h0 h [a0] ∧ ∃ b, h0.size ≤ b ∧ Fld Z h a0 "java/lang/String" "coder" "B" (.int (0 : Int32)) ∧ Fld Z h a0 "java/lang/String" "value" "[B" (.ref b) ∧ Ary Z h b .byte [(.int (nar .byte ((c0).toInt8.toInt32))), (.int (nar .byte ((c1).toInt8.toInt32)))]
set_option maxRecDepth 65536 in
set_option maxHeartbeats 40000000 in
theorem rm2n2 (l : Launch) (Z : State) (aw : Array Value) (hw : ∀ d ∈ tables_1, d.before aw Z = true) (ws : List Jvm.Cond) (a0 : Addr) (a1 : Addr) (cs : Int32) (c0 c1 : Int32) (h0 : Heap) (n0 : Nat) (Z0 : n0 ≤ h0.size) (O0 : Old Z n0 h0) (S_cs : Sta Z Z.heap "java/lang/String" "COMPACT_STRINGS" "Z" (.int cs)) (hcs : ¬ (cs = (0 : Int32))) (E_a0 : Exa Z h0 a0 "java/lang/String") (F_c : Fld Z h0 a0 "java/lang/String" "coder" "B" (.int (0 : Int32))) (F_v : Fld Z h0 a0 "java/lang/String" "value" "[B" .null) (g_a0 : n0 ≤ a0) (A_a1 : Ary Z h0 a1 .char [(.int c0), (.int c1)]) (n_01 : a0 ≠ a1) (hu0 : ¬ ((255 : Int32) < c0)) (hu1 : ¬ ((255 : Int32) < c1)) :
    MetFree l (⟨"java/lang/String", "<init>", "([C)V"⟩ : MethodName) (head1 (Jvm.Cond.code (⟨"java/lang/String", "<init>", "([C)V"⟩ : MethodName) jdk_42_method_3_code 2 none :: ws) ({ frames := 3, cells := 1, slots := 2, locals := 52 } : Room)) (fun a U => a = #[(.ref a0), (.ref a1)] ∧ Z.Warmed39 U.vm ∧ U.heap = h0) (fun _ _ _ _ _ => True) (fun _ U o U' => ∃ v L, o = .returned v ∧ Q2n2 Z a0 a1 cs c0 c1 h0 n0 v U'.heap L ∧ FrameEnd U o U' L ({ frames := 3, cells := 1, slots := 2, locals := 52 } : Room).cells ({ frames := 3, cells := 1, slots := 2, locals := 52 } : Room).slots) := by
  refine MetFree.of_bodySF (plainFor_of_name pn_13) hisR ?_
  intro p e s m args below meth c s₁ Bd hml0 hP hK
  obtain ⟨rfl, hZ, hh⟩ := hP
  have hx := Bd.exec
  have hby := Bd.bytes
  have hml : c.maxLocals = 2 := hml0
  have hown : s.vm.findClass "java/lang/String" = some m.cls := findClass_of_methodNamed Bd.named
  have hnm := (name_of_methodNamed Bd.named Bd.method).1
  have hlk : meth.locks = false := BodyLoose.notSynchronized Bd
  have X0 : Stand p l e ({ frames := 3, cells := 1, slots := 2, locals := 52 } : Room) s m #[(.ref a0), (.ref a1)] below meth c s₁ [] 0 0 := Stand.of_body Bd
  have e0 : s₁.heap = h0 := by rw [← hh, Bd.state]; rfl
  have N0 := Fr.nil n0
  show Run p e s below (Q2n2 Z a0 a1 cs c0 c1 h0 n0) ({ frames := 3, cells := 1, slots := 2, locals := 52 } : Room).cells ({ frames := 3, cells := 1, slots := 2, locals := 52 } : Room).slots s₁ (entryFrame m #[(.ref a0), (.ref a1)] 2)
  rw [ef_2n2]
  show Run _ _ _ _ _ _ _ s₁ (mkF m 0 #[.val (.ref a0), .val (.ref a1)] [])
  refine go (T' := s₁) (f' := (mkF m 1 #[.val (.ref a0), .val (.ref a1)] [(.ref a0)])) (by intro t k; exact XS.aloadN X0.here hx rfl (hb hby d2_0) rfl rfl k) ?_
  refine go (T' := s₁) (f' := (mkF m 2 #[.val (.ref a0), .val (.ref a1)] [(.ref a1), (.ref a0)])) (by intro t k; exact XS.aloadN X0.here hx rfl (hb hby d2_1) rfl rfl k) ?_
  refine go (T' := s₁) (f' := (mkF m 3 #[.val (.ref a0), .val (.ref a1)] [(.int (0 : Int32)), (.ref a1), (.ref a0)])) (by intro t k; exact XS.iconst X0.here hx rfl (hb hby d2_2) k) ?_
  refine go (T' := s₁) (f' := (mkF m 4 #[.val (.ref a0), .val (.ref a1)] [(.ref a1), (.int (0 : Int32)), (.ref a1), (.ref a0)])) (by intro t k; exact XS.aloadN X0.here hx rfl (hb hby d2_3) rfl rfl k) ?_
  refine go (T' := s₁) (f' := (mkF m 5 #[.val (.ref a0), .val (.ref a1)] [(.int (2 : Int32)), (.int (0 : Int32)), (.ref a1), (.ref a0)])) (by intro t k; exact alen X0 hx hZ e0 A_a1 (z := (2 : Int32)) rfl (g := (mkF m 4 #[.val (.ref a0), .val (.ref a1)] [(.ref a1), (.int (0 : Int32)), (.ref a1), (.ref a0)])) rfl rfl (hb hby d2_4) _ k) ?_
  refine go (T' := s₁) (f' := (mkF m 6 #[.val (.ref a0), .val (.ref a1)] [.null, (.int (2 : Int32)), (.int (0 : Int32)), (.ref a1), (.ref a0)])) (by intro t k; exact XS.aconstNull X0.here hx rfl (hb hby d2_5) k) ?_
  obtain ⟨_, _, ⟨T1, Lz1, kz1, nz1⟩, -, X1, ⟨Lc1, hQ1, lz1, yz1, zz1⟩, st1⟩ := X0.specialBack hx (y := (⟨"java/lang/String", "<init>", "([CIILjava/lang/Void;)V"⟩ : MethodName)) rfl hown (mvT hZ (hw _ (List.mem_of_getElem? (i := 14) rfl))) (mvT hZ (hw _ (List.mem_of_getElem? (i := 15) rfl))) (mvT hZ (hw _ (List.mem_of_getElem? (i := 17) rfl))) (by decide) (backOf (W := 0) (rm3n2 l Z aw hw [] a0 a1 cs c0 c1 h0 n0 Z0 O0 S_cs hcs E_a0 F_c F_v g_a0 A_a1 n_01 hu0 hu1) hZ (hw _ (List.mem_of_getElem? (i := 17) rfl)) (hw _ (List.mem_of_getElem? (i := 10) rfl)) (by decide) (by decide)) (g := (mkF m 6 #[.val (.ref a0), .val (.ref a1)] [.null, (.int (2 : Int32)), (.int (0 : Int32)), (.ref a1), (.ref a0)])) rfl (by rw [hml]; rfl) (Steps.refl _) (a := a0) (argsL := [(.ref a1), (.int (0 : Int32)), (.int (2 : Int32)), .null]) (rest := []) (lenOf pd_285bCIILjava2flang2fVoid3b29V rfl) rfl (by show 2 * 0 + _ ≤ _; exact Nat.le_of_eq rfl) (hb hby d2_6) (fun _ _ => ⟨rfl, e0, (by decide : 0 + 1 ≤ _), (by decide : 0 + 2 ≤ _)⟩)
  dsimp only [Pt.U, Pt.locs, Pt.cells, Pt.slots] at X1 lz1 yz1 zz1 st1 hQ1
  subst lz1 yz1 zz1
  obtain ⟨rfl, N1q, K1, sb1, zb1, Fc1, Fv1, Ab1⟩ := hQ1
  have ne_a0_sb1 : a0 ≠ sb1 := Nat.ne_of_lt (Nat.lt_of_lt_of_le E_a0.lt zb1)
  have ne_a1_sb1 : a1 ≠ sb1 := Nat.ne_of_lt (Nat.lt_of_lt_of_le A_a1.lt zb1)
  have ge_sb1 : n0 ≤ sb1 := Nat.le_trans Z0 zb1
  have sz_sb1 : h0.size ≤ sb1 := Nat.le_trans (Keep.refl h0 []).1 zb1
  have E1_a0 := Exa.keep E_a0 K1
  have A1_a1 := Ary.keep A_a1 K1 (ninS (Ne.symm n_01) nin0)
  have O1 : Old Z n0 T1.heap := O0.keep K1 (allS g_a0 all0)
  have Z1 : n0 ≤ T1.heap.size := Nat.le_trans Z0 K1.1
  have KK1 : Keep h0 T1.heap [a0] := (Keep.refl _ _).trans K1 (allS (Or.inl (List.mem_of_getElem? (i := 0) rfl)) all0)
  have N1 := Fr.app N0 N1q
  refine go (fun _ k => st1.trans k) ?_
  show Run _ _ _ _ _ _ _ T1 (mkF m 9 #[.val (.ref a0), .val (.ref a1)] [])
  refine retV X1 hx Bd.returns (hb hby d2_9) hlk (by decide) (by decide) ?_
  show Q2n2 Z a0 a1 cs c0 c1 h0 n0 _ T1.heap _
  exact ⟨rfl, N1, KK1, ⟨_, sz_sb1, Fc1, Fv1, Ab1⟩⟩
theorem ef_13u (m : MethodId) (x0 : Addr) : entryFrame m #[(.ref x0)] 1 = mkF m 0 #[.val (.ref x0)] [] := by first | (simp [entryFrame, mkF, argsToLocals, Value.category]; done) | rfl
def Q13u (Z : State) (a0 : Addr) (cs : Int32) (h0 : Heap) (n0 : Nat) (v : Option Value) (h : Heap) (L : List Loc) : Prop := v = some (.int (1 : Int32)) ∧ Fr n0 L ∧ h = h0
set_option maxRecDepth 65536 in
set_option maxHeartbeats 40000000 in
theorem rm13u (l : Launch) (Z : State) (aw : Array Value) (hw : ∀ d ∈ tables_1, d.before aw Z = true) (ws : List Jvm.Cond) (a0 : Addr) (cs : Int32) (h0 : Heap) (n0 : Nat) (Z0 : n0 ≤ h0.size) (O0 : Old Z n0 h0) (S_cs : Sta Z Z.heap "java/lang/String" "COMPACT_STRINGS" "Z" (.int cs)) (hcs : ¬ (cs = (0 : Int32))) (E_a0 : Exa Z h0 a0 "java/lang/String") (F_c : Fld Z h0 a0 "java/lang/String" "coder" "B" (.int (1 : Int32))) :
    MetFree l (⟨"java/lang/String", "coder", "()B"⟩ : MethodName) (head1 (Jvm.Cond.code (⟨"java/lang/String", "coder", "()B"⟩ : MethodName) jdk_42_method_152_code 1 (some .byte) :: ws) ({ frames := 0, cells := 0, slots := 0, locals := 0 } : Room)) (fun a U => a = #[(.ref a0)] ∧ Z.Warmed39 U.vm ∧ U.heap = h0) (fun _ _ _ _ _ => True) (fun _ U o U' => ∃ v L, o = .returned v ∧ Q13u Z a0 cs h0 n0 v U'.heap L ∧ FrameEnd U o U' L ({ frames := 0, cells := 0, slots := 0, locals := 0 } : Room).cells ({ frames := 0, cells := 0, slots := 0, locals := 0 } : Room).slots) := by
  refine MetFree.of_bodySF (plainFor_of_name pn_13) hisR ?_
  intro p e s m args below meth c s₁ Bd hml0 hP hK
  obtain ⟨rfl, hZ, hh⟩ := hP
  have hx := Bd.exec
  have hby := Bd.bytes
  have hml : c.maxLocals = 1 := hml0
  have hown : s.vm.findClass "java/lang/String" = some m.cls := findClass_of_methodNamed Bd.named
  have hnm := (name_of_methodNamed Bd.named Bd.method).1
  have hlk : meth.locks = false := BodyLoose.notSynchronized Bd
  have X0 : Stand p l e ({ frames := 0, cells := 0, slots := 0, locals := 0 } : Room) s m #[(.ref a0)] below meth c s₁ [] 0 0 := Stand.of_body Bd
  have e0 : s₁.heap = h0 := by rw [← hh, Bd.state]; rfl
  have N0 := Fr.nil n0
  show Run p e s below (Q13u Z a0 cs h0 n0) ({ frames := 0, cells := 0, slots := 0, locals := 0 } : Room).cells ({ frames := 0, cells := 0, slots := 0, locals := 0 } : Room).slots s₁ (entryFrame m #[(.ref a0)] 1)
  rw [ef_13u]
  show Run _ _ _ _ _ _ _ s₁ (mkF m 0 #[.val (.ref a0)] [])
  obtain ⟨T1, X1, e1, st1⟩ := getS2 X0 hx hZ hown (host := "") (Or.inl (hw _ (List.mem_of_getElem? (i := 21) rfl))) Via.refl e0 (S_cs.ext O0.2) (g := (mkF m 0 #[.val (.ref a0)] [])) rfl (hb hby d13_0)
  refine go st1 ?_
  show Run _ _ _ _ _ _ _ T1 (mkF m 3 #[.val (.ref a0)] [(.int cs)])
  refine go (T' := T1) (f' := (mkF m 6 #[.val (.ref a0)] [])) (by intro t k; exact XS.ifNo X1.here hx rfl (hb hby d13_3) rfl ((if0 _ _).trans (feq (hcs : ¬ (cs = (0 : Int32)))).1) k) ?_
  refine go (T' := T1) (f' := (mkF m 7 #[.val (.ref a0)] [(.ref a0)])) (by intro t k; exact XS.aloadN X1.here hx rfl (hb hby d13_6) rfl rfl k) ?_
  obtain ⟨T2, X2, e2, st2⟩ := getF X1 hx hZ hown (host := "") (Or.inl (hw _ (List.mem_of_getElem? (i := 33) rfl))) Via.refl e1 F_c (g := (mkF m 7 #[.val (.ref a0)] [(.ref a0)])) rfl rfl (hb hby d13_7)
  refine go st2 ?_
  show Run _ _ _ _ _ _ _ T2 (mkF m 10 #[.val (.ref a0)] [(.int (1 : Int32))])
  refine go (T' := T2) (f' := (mkF m 14 #[.val (.ref a0)] [(.int (1 : Int32))])) (by intro t k; exact XS.goto X2.here hx rfl (pc0 := 10) (pc' := 14) rfl (hb hby d13_10) (by decide) (by decide) k) ?_
  refine retZ X2 hx (t := .byte) Bd.returns (by simp) (hb hby d13_14) hlk (by decide) (by decide) ?_
  show Q13u Z a0 cs h0 n0 _ T2.heap _
  rw [e2]
  have hv' : (nar .byte (1 : Int32)) = (1 : Int32) := by
    rfl
  have hv : (some (.int (nar .byte (1 : Int32))) : Option Value) = some (.int (1 : Int32)) := congrArg (fun z => (some (.int z) : Option Value)) hv'
  exact ⟨hv, N0, rfl⟩
theorem d15_17 : decode jdk_42_method_154_code 17 = .ok (.iconst 0, 1) := by decide +kernel
theorem ef_15u (m : MethodId) (x0 : Addr) : entryFrame m #[(.ref x0)] 1 = mkF m 0 #[.val (.ref x0)] [] := by first | (simp [entryFrame, mkF, argsToLocals, Value.category]; done) | rfl
def Q15u (Z : State) (a0 : Addr) (cs : Int32) (h0 : Heap) (n0 : Nat) (v : Option Value) (h : Heap) (L : List Loc) : Prop := v = some (.int (0 : Int32)) ∧ Fr n0 L ∧ h = h0
set_option maxRecDepth 65536 in
set_option maxHeartbeats 40000000 in
theorem rm15u (l : Launch) (Z : State) (aw : Array Value) (hw : ∀ d ∈ tables_1, d.before aw Z = true) (ws : List Jvm.Cond) (a0 : Addr) (cs : Int32) (h0 : Heap) (n0 : Nat) (Z0 : n0 ≤ h0.size) (O0 : Old Z n0 h0) (S_cs : Sta Z Z.heap "java/lang/String" "COMPACT_STRINGS" "Z" (.int cs)) (hcs : ¬ (cs = (0 : Int32))) (F_c : Fld Z h0 a0 "java/lang/String" "coder" "B" (.int (1 : Int32))) :
    MetFree l (⟨"java/lang/String", "isLatin1", "()Z"⟩ : MethodName) (head1 (Jvm.Cond.code (⟨"java/lang/String", "isLatin1", "()Z"⟩ : MethodName) jdk_42_method_154_code 1 (some .boolean) :: ws) ({ frames := 0, cells := 0, slots := 0, locals := 0 } : Room)) (fun a U => a = #[(.ref a0)] ∧ Z.Warmed39 U.vm ∧ U.heap = h0) (fun _ _ _ _ _ => True) (fun _ U o U' => ∃ v L, o = .returned v ∧ Q15u Z a0 cs h0 n0 v U'.heap L ∧ FrameEnd U o U' L ({ frames := 0, cells := 0, slots := 0, locals := 0 } : Room).cells ({ frames := 0, cells := 0, slots := 0, locals := 0 } : Room).slots) := by
  refine MetFree.of_bodySF (plainFor_of_name pn_13) hisR ?_
  intro p e s m args below meth c s₁ Bd hml0 hP hK
  obtain ⟨rfl, hZ, hh⟩ := hP
  have hx := Bd.exec
  have hby := Bd.bytes
  have hml : c.maxLocals = 1 := hml0
  have hown : s.vm.findClass "java/lang/String" = some m.cls := findClass_of_methodNamed Bd.named
  have hnm := (name_of_methodNamed Bd.named Bd.method).1
  have hlk : meth.locks = false := BodyLoose.notSynchronized Bd
  have X0 : Stand p l e ({ frames := 0, cells := 0, slots := 0, locals := 0 } : Room) s m #[(.ref a0)] below meth c s₁ [] 0 0 := Stand.of_body Bd
  have e0 : s₁.heap = h0 := by rw [← hh, Bd.state]; rfl
  have N0 := Fr.nil n0
  show Run p e s below (Q15u Z a0 cs h0 n0) ({ frames := 0, cells := 0, slots := 0, locals := 0 } : Room).cells ({ frames := 0, cells := 0, slots := 0, locals := 0 } : Room).slots s₁ (entryFrame m #[(.ref a0)] 1)
  rw [ef_15u]
  show Run _ _ _ _ _ _ _ s₁ (mkF m 0 #[.val (.ref a0)] [])
  obtain ⟨T1, X1, e1, st1⟩ := getS2 X0 hx hZ hown (host := "") (Or.inl (hw _ (List.mem_of_getElem? (i := 21) rfl))) Via.refl e0 (S_cs.ext O0.2) (g := (mkF m 0 #[.val (.ref a0)] [])) rfl (hb hby d15_0)
  refine go st1 ?_
  show Run _ _ _ _ _ _ _ T1 (mkF m 3 #[.val (.ref a0)] [(.int cs)])
  refine go (T' := T1) (f' := (mkF m 6 #[.val (.ref a0)] [])) (by intro t k; exact XS.ifNo X1.here hx rfl (hb hby d15_3) rfl ((if0 _ _).trans (feq (hcs : ¬ (cs = (0 : Int32)))).1) k) ?_
  refine go (T' := T1) (f' := (mkF m 7 #[.val (.ref a0)] [(.ref a0)])) (by intro t k; exact XS.aloadN X1.here hx rfl (hb hby d15_6) rfl rfl k) ?_
  obtain ⟨T2, X2, e2, st2⟩ := getF X1 hx hZ hown (host := "") (Or.inl (hw _ (List.mem_of_getElem? (i := 33) rfl))) Via.refl e1 F_c (g := (mkF m 7 #[.val (.ref a0)] [(.ref a0)])) rfl rfl (hb hby d15_7)
  refine go st2 ?_
  show Run _ _ _ _ _ _ _ T2 (mkF m 10 #[.val (.ref a0)] [(.int (1 : Int32))])
  refine go (T' := T2) (f' := (mkF m 17 #[.val (.ref a0)] [])) (by intro t k; exact XS.ifYes X2.here hx rfl (pc0 := 10) (pc' := 17) rfl (hb hby d15_10) rfl ((if0 _ _).trans (feq (by decide : ¬ ((1 : Int32) = (0 : Int32)))).2) (by decide) (by decide) k) ?_
  refine go (T' := T2) (f' := (mkF m 18 #[.val (.ref a0)] [(.int (0 : Int32))])) (by intro t k; exact XS.iconst X2.here hx rfl (hb hby d15_17) k) ?_
  refine retZ X2 hx (t := .boolean) Bd.returns (by simp) (hb hby d15_18) hlk (by decide) (by decide) ?_
  show Q15u Z a0 cs h0 n0 _ T2.heap _
  rw [e2]
  have hv' : (nar .boolean (0 : Int32)) = (0 : Int32) := by
    rfl
  have hv : (some (.int (nar .boolean (0 : Int32))) : Option Value) = some (.int (0 : Int32)) := congrArg (fun z => (some (.int z) : Option Value)) hv'
  exact ⟨hv, N0, rfl⟩
theorem ef_12u (m : MethodId) (x0 : Addr) : entryFrame m #[(.ref x0)] 1 = mkF m 0 #[.val (.ref x0)] [] := by first | (simp [entryFrame, mkF, argsToLocals, Value.category]; done) | rfl
def Q12u (Z : State) (a0 : Addr) (cs : Int32) (b : Addr) (x0 x1 x2 x3 : Int32) (h0 : Heap) (n0 : Nat) (v : Option Value) (h : Heap) (L : List Loc) : Prop := v = some (.int (2 : Int32)) ∧ Fr n0 L ∧ h = h0
set_option maxRecDepth 65536 in
set_option maxHeartbeats 40000000 in
theorem rm12u (l : Launch) (Z : State) (aw : Array Value) (hw : ∀ d ∈ tables_1, d.before aw Z = true) (ws : List Jvm.Cond) (a0 : Addr) (cs : Int32) (b : Addr) (x0 x1 x2 x3 : Int32) (h0 : Heap) (n0 : Nat) (Z0 : n0 ≤ h0.size) (O0 : Old Z n0 h0) (S_cs : Sta Z Z.heap "java/lang/String" "COMPACT_STRINGS" "Z" (.int cs)) (hcs : ¬ (cs = (0 : Int32))) (E_a0 : Exa Z h0 a0 "java/lang/String") (F_c : Fld Z h0 a0 "java/lang/String" "coder" "B" (.int (1 : Int32))) (F_v : Fld Z h0 a0 "java/lang/String" "value" "[B" (.ref b)) (A_b : Ary Z h0 b .byte [(.int x0), (.int x1), (.int x2), (.int x3)]) :
    MetFree l (⟨"java/lang/String", "length", "()I"⟩ : MethodName) (head1 (Jvm.Cond.code (⟨"java/lang/String", "length", "()I"⟩ : MethodName) jdk_42_method_54_code 1 (some .int) :: ws) ({ frames := 1, cells := 0, slots := 0, locals := 13 } : Room)) (fun a U => a = #[(.ref a0)] ∧ Z.Warmed39 U.vm ∧ U.heap = h0) (fun _ _ _ _ _ => True) (fun _ U o U' => ∃ v L, o = .returned v ∧ Q12u Z a0 cs b x0 x1 x2 x3 h0 n0 v U'.heap L ∧ FrameEnd U o U' L ({ frames := 1, cells := 0, slots := 0, locals := 13 } : Room).cells ({ frames := 1, cells := 0, slots := 0, locals := 13 } : Room).slots) := by
  refine MetFree.of_bodySF (plainFor_of_name pn_13) hisR ?_
  intro p e s m args below meth c s₁ Bd hml0 hP hK
  obtain ⟨rfl, hZ, hh⟩ := hP
  have hx := Bd.exec
  have hby := Bd.bytes
  have hml : c.maxLocals = 1 := hml0
  have hown : s.vm.findClass "java/lang/String" = some m.cls := findClass_of_methodNamed Bd.named
  have hnm := (name_of_methodNamed Bd.named Bd.method).1
  have hlk : meth.locks = false := BodyLoose.notSynchronized Bd
  have X0 : Stand p l e ({ frames := 1, cells := 0, slots := 0, locals := 13 } : Room) s m #[(.ref a0)] below meth c s₁ [] 0 0 := Stand.of_body Bd
  have e0 : s₁.heap = h0 := by rw [← hh, Bd.state]; rfl
  have N0 := Fr.nil n0
  show Run p e s below (Q12u Z a0 cs b x0 x1 x2 x3 h0 n0) ({ frames := 1, cells := 0, slots := 0, locals := 13 } : Room).cells ({ frames := 1, cells := 0, slots := 0, locals := 13 } : Room).slots s₁ (entryFrame m #[(.ref a0)] 1)
  rw [ef_12u]
  show Run _ _ _ _ _ _ _ s₁ (mkF m 0 #[.val (.ref a0)] [])
  refine go (T' := s₁) (f' := (mkF m 1 #[.val (.ref a0)] [(.ref a0)])) (by intro t k; exact XS.aloadN X0.here hx rfl (hb hby d12_0) rfl rfl k) ?_
  obtain ⟨T1, X1, e1, st1⟩ := getF X0 hx hZ hown (host := "") (Or.inl (hw _ (List.mem_of_getElem? (i := 35) rfl))) Via.refl e0 F_v (g := (mkF m 1 #[.val (.ref a0)] [(.ref a0)])) rfl rfl (hb hby d12_1)
  refine go st1 ?_
  show Run _ _ _ _ _ _ _ T1 (mkF m 4 #[.val (.ref a0)] [(.ref b)])
  refine go (T' := T1) (f' := (mkF m 5 #[.val (.ref a0)] [(.int (4 : Int32))])) (by intro t k; exact alen X1 hx hZ e1 A_b (z := (4 : Int32)) rfl (g := (mkF m 4 #[.val (.ref a0)] [(.ref b)])) rfl rfl (hb hby d12_4) _ k) ?_
  refine go (T' := T1) (f' := (mkF m 6 #[.val (.ref a0)] [(.ref a0), (.int (4 : Int32))])) (by intro t k; exact XS.aloadN X1.here hx rfl (hb hby d12_5) rfl rfl k) ?_
  obtain ⟨cq2, kq2, q2a, q2b, q2c⟩ := isOf hZ e1 E_a0
  obtain ⟨_, _, ⟨T2, Lz2, kz2, nz2⟩, -, X2, ⟨Lc2, hQ2, lz2, yz2, zz2⟩, st2⟩ := X1.virtualBack hx (y := (⟨"java/lang/String", "coder", "()B"⟩ : MethodName)) (z := (⟨"java/lang/String", "coder", "()B"⟩ : MethodName)) hown (mvT hZ (hw _ (List.mem_of_getElem? (i := 66) rfl))) (mvT hZ (hw _ (List.mem_of_getElem? (i := 67) rfl))) (notFace_of_selects (args := #[]) (mvT hZ (hw _ (List.mem_of_getElem? (i := 69) rfl)))) (mvT hZ (hw _ (List.mem_of_getElem? (i := 69) rfl))) (mvT hZ (hw _ (List.mem_of_getElem? (i := 68) rfl))) (by decide) (backOf (W := 1) (rm13u l Z aw hw [] a0 cs h0 n0 Z0 O0 S_cs hcs E_a0 F_c) hZ (hw _ (List.mem_of_getElem? (i := 70) rfl)) (hw _ (List.mem_of_getElem? (i := 10) rfl)) (by decide) (by decide)) q2a q2c (g := (mkF m 6 #[.val (.ref a0)] [(.ref a0), (.int (4 : Int32))])) rfl (by rw [hml]; rfl) (Steps.refl _) (argsL := []) (rest := [(.int (4 : Int32))]) (lenOf pd_2829B rfl) rfl (by show 2 * 0 + _ ≤ _; exact Nat.le_of_eq rfl) (hb hby d12_6) (fun _ _ => ⟨rfl, e1, (by decide : 0 + 0 ≤ _), (by decide : 0 + 0 ≤ _)⟩)
  dsimp only [Pt.U, Pt.locs, Pt.cells, Pt.slots] at X2 lz2 yz2 zz2 st2 hQ2
  subst lz2 yz2 zz2
  obtain ⟨rfl, N2q, e2⟩ := hQ2
  have N2 := Fr.app N0 N2q
  refine go (fun _ k => st2.trans k) ?_
  show Run _ _ _ _ _ _ _ T2 (mkF m 9 #[.val (.ref a0)] [(.int (1 : Int32)), (.int (4 : Int32))])
  refine go (T' := T2) (f' := (mkF m 10 #[.val (.ref a0)] [(.int (2 : Int32))])) (by intro t k; exact XS.ishr X2.here hx rfl (hb hby d12_9) rfl k) ?_
  refine retW X2 hx (t := .int) Bd.returns rfl (Or.inl ⟨rfl, Or.inl rfl, _, rfl⟩) (hb hby d12_10) hlk (by decide) (by decide) ?_
  show Q12u Z a0 cs b x0 x1 x2 x3 h0 n0 _ T2.heap _
  rw [e2]
  have hv : (some (.int (2 : Int32)) : Option Value) = some (.int (2 : Int32)) := rfl
  exact ⟨hv, N2, rfl⟩
theorem d30_0 : decode jdk_52_method_6_code 0 = .ok (.aload_n 0, 1) := by decide +kernel
theorem d30_1 : decode jdk_52_method_6_code 1 = .ok (.arraylength, 1) := by decide +kernel
theorem d30_2 : decode jdk_52_method_6_code 2 = .ok (.iconst 1, 1) := by decide +kernel
theorem d30_3 : decode jdk_52_method_6_code 3 = .ok (.ishr, 1) := by decide +kernel
theorem d30_4 : decode jdk_52_method_6_code 4 = .ok (.ireturn, 1) := by decide +kernel
theorem ef_30 (m : MethodId) (x0 : Addr) : entryFrame m #[(.ref x0)] 1 = mkF m 0 #[.val (.ref x0)] [] := by first | (simp [entryFrame, mkF, argsToLocals, Value.category]; done) | rfl
def Q30 (Z : State) (a0 : Addr) (x0 x1 x2 x3 : Int32) (h0 : Heap) (n0 : Nat) (v : Option Value) (h : Heap) (L : List Loc) : Prop := v = some (.int (2 : Int32)) ∧ Fr n0 L ∧ h = h0
set_option maxRecDepth 65536 in
set_option maxHeartbeats 40000000 in
theorem rm30 (l : Launch) (Z : State) (aw : Array Value) (hw : ∀ d ∈ tables_1, d.before aw Z = true) (ws : List Jvm.Cond) (a0 : Addr) (x0 x1 x2 x3 : Int32) (h0 : Heap) (n0 : Nat) (Z0 : n0 ≤ h0.size) (A_a0 : Ary Z h0 a0 .byte [(.int x0), (.int x1), (.int x2), (.int x3)]) :
    MetFree l (⟨"java/lang/StringUTF16", "length", "([B)I"⟩ : MethodName) (head1 (Jvm.Cond.code (⟨"java/lang/StringUTF16", "length", "([B)I"⟩ : MethodName) jdk_52_method_6_code 1 (some .int) :: ws) ({ frames := 0, cells := 0, slots := 0, locals := 0 } : Room)) (fun a U => a = #[(.ref a0)] ∧ Z.Warmed39 U.vm ∧ U.heap = h0) (fun _ _ _ _ _ => True) (fun _ U o U' => ∃ v L, o = .returned v ∧ Q30 Z a0 x0 x1 x2 x3 h0 n0 v U'.heap L ∧ FrameEnd U o U' L ({ frames := 0, cells := 0, slots := 0, locals := 0 } : Room).cells ({ frames := 0, cells := 0, slots := 0, locals := 0 } : Room).slots) := by
  refine MetFree.of_bodySF (plainFor_of_name pn_6) hisR ?_
  intro p e s m args below meth c s₁ Bd hml0 hP hK
  obtain ⟨rfl, hZ, hh⟩ := hP
  have hx := Bd.exec
  have hby := Bd.bytes
  have hml : c.maxLocals = 1 := hml0
  have hown : s.vm.findClass "java/lang/StringUTF16" = some m.cls := findClass_of_methodNamed Bd.named
  have hnm := (name_of_methodNamed Bd.named Bd.method).1
  have hlk : meth.locks = false := BodyLoose.notSynchronized Bd
  have X0 : Stand p l e ({ frames := 0, cells := 0, slots := 0, locals := 0 } : Room) s m #[(.ref a0)] below meth c s₁ [] 0 0 := Stand.of_body Bd
  have e0 : s₁.heap = h0 := by rw [← hh, Bd.state]; rfl
  have N0 := Fr.nil n0
  show Run p e s below (Q30 Z a0 x0 x1 x2 x3 h0 n0) ({ frames := 0, cells := 0, slots := 0, locals := 0 } : Room).cells ({ frames := 0, cells := 0, slots := 0, locals := 0 } : Room).slots s₁ (entryFrame m #[(.ref a0)] 1)
  rw [ef_30]
  show Run _ _ _ _ _ _ _ s₁ (mkF m 0 #[.val (.ref a0)] [])
  refine go (T' := s₁) (f' := (mkF m 1 #[.val (.ref a0)] [(.ref a0)])) (by intro t k; exact XS.aloadN X0.here hx rfl (hb hby d30_0) rfl rfl k) ?_
  refine go (T' := s₁) (f' := (mkF m 2 #[.val (.ref a0)] [(.int (4 : Int32))])) (by intro t k; exact alen X0 hx hZ e0 A_a0 (z := (4 : Int32)) rfl (g := (mkF m 1 #[.val (.ref a0)] [(.ref a0)])) rfl rfl (hb hby d30_1) _ k) ?_
  refine go (T' := s₁) (f' := (mkF m 3 #[.val (.ref a0)] [(.int (1 : Int32)), (.int (4 : Int32))])) (by intro t k; exact XS.iconst X0.here hx rfl (hb hby d30_2) k) ?_
  refine go (T' := s₁) (f' := (mkF m 4 #[.val (.ref a0)] [(.int (2 : Int32))])) (by intro t k; exact XS.ishr X0.here hx rfl (hb hby d30_3) rfl k) ?_
  refine retW X0 hx (t := .int) Bd.returns rfl (Or.inl ⟨rfl, Or.inl rfl, _, rfl⟩) (hb hby d30_4) hlk (by decide) (by decide) ?_
  show Q30 Z a0 x0 x1 x2 x3 h0 n0 _ s₁.heap _
  rw [e0]
  have hv : (some (.int (2 : Int32)) : Option Value) = some (.int (2 : Int32)) := rfl
  exact ⟨hv, N0, rfl⟩
theorem d29_0 : decode jdk_52_method_91_code 0 = .ok (.iload_n 0, 1) := by decide +kernel
theorem d29_1 : decode jdk_52_method_91_code 1 = .ok (.aload_n 1, 1) := by decide +kernel
theorem d29_2 : decode jdk_52_method_91_code 2 = .ok (.invokestatic 48, 3) := by decide +kernel
theorem d29_5 : decode jdk_52_method_91_code 5 = .ok (.invokestatic 414, 3) := by decide +kernel
theorem d29_8 : decode jdk_52_method_91_code 8 = .ok (.return_, 1) := by decide +kernel
theorem pd_285bB29I : parseMethodDescriptor "([B)I" = some ⟨[(.array .byte)], some .int⟩ := by decide +kernel
theorem ef_29 (m : MethodId) (x1 : Addr) : entryFrame m #[(.int (0 : Int32)), (.ref x1)] 2 = mkF m 0 #[.val (.int (0 : Int32)), .val (.ref x1)] [] := by first | (simp [entryFrame, mkF, argsToLocals, Value.category]; done) | rfl
def Q29 (Z : State) (a1 : Addr) (wf : Value) (x0 x1 x2 x3 : Int32) (h0 : Heap) (n0 : Nat) (v : Option Value) (h : Heap) (L : List Loc) : Prop := v = none ∧ Fr n0 L ∧ h = h0
set_option maxRecDepth 65536 in
set_option maxHeartbeats 40000000 in
theorem rm29 (l : Launch) (Z : State) (aw : Array Value) (hw : ∀ d ∈ tables_1, d.before aw Z = true) (ws : List Jvm.Cond) (a1 : Addr) (wf : Value) (x0 x1 x2 x3 : Int32) (h0 : Heap) (n0 : Nat) (Z0 : n0 ≤ h0.size) (O0 : Old Z n0 h0) (S_sf : Sta Z Z.heap "jdk/internal/util/Preconditions" "SIOOBE_FORMATTER" "Ljava/util/function/BiFunction;" wf) (hwf : wf.isRef = true) (A_a1 : Ary Z h0 a1 .byte [(.int x0), (.int x1), (.int x2), (.int x3)]) :
    MetFree l (⟨"java/lang/StringUTF16", "checkIndex", "(I[B)V"⟩ : MethodName) (head1 (Jvm.Cond.code (⟨"java/lang/StringUTF16", "checkIndex", "(I[B)V"⟩ : MethodName) jdk_52_method_91_code 2 none :: ws) ({ frames := 2, cells := 0, slots := 0, locals := 27 } : Room)) (fun a U => a = #[(.int (0 : Int32)), (.ref a1)] ∧ Z.Warmed39 U.vm ∧ U.heap = h0) (fun _ _ _ _ _ => True) (fun _ U o U' => ∃ v L, o = .returned v ∧ Q29 Z a1 wf x0 x1 x2 x3 h0 n0 v U'.heap L ∧ FrameEnd U o U' L ({ frames := 2, cells := 0, slots := 0, locals := 27 } : Room).cells ({ frames := 2, cells := 0, slots := 0, locals := 27 } : Room).slots) := by
  refine MetFree.of_bodySF (plainFor_of_name pn_6) hisR ?_
  intro p e s m args below meth c s₁ Bd hml0 hP hK
  obtain ⟨rfl, hZ, hh⟩ := hP
  have hx := Bd.exec
  have hby := Bd.bytes
  have hml : c.maxLocals = 2 := hml0
  have hown : s.vm.findClass "java/lang/StringUTF16" = some m.cls := findClass_of_methodNamed Bd.named
  have hnm := (name_of_methodNamed Bd.named Bd.method).1
  have hlk : meth.locks = false := BodyLoose.notSynchronized Bd
  have X0 : Stand p l e ({ frames := 2, cells := 0, slots := 0, locals := 27 } : Room) s m #[(.int (0 : Int32)), (.ref a1)] below meth c s₁ [] 0 0 := Stand.of_body Bd
  have e0 : s₁.heap = h0 := by rw [← hh, Bd.state]; rfl
  have N0 := Fr.nil n0
  show Run p e s below (Q29 Z a1 wf x0 x1 x2 x3 h0 n0) ({ frames := 2, cells := 0, slots := 0, locals := 27 } : Room).cells ({ frames := 2, cells := 0, slots := 0, locals := 27 } : Room).slots s₁ (entryFrame m #[(.int (0 : Int32)), (.ref a1)] 2)
  rw [ef_29]
  show Run _ _ _ _ _ _ _ s₁ (mkF m 0 #[.val (.int (0 : Int32)), .val (.ref a1)] [])
  refine go (T' := s₁) (f' := (mkF m 1 #[.val (.int (0 : Int32)), .val (.ref a1)] [(.int (0 : Int32))])) (by intro t k; exact XS.iloadN X0.here hx rfl (hb hby d29_0) rfl k) ?_
  refine go (T' := s₁) (f' := (mkF m 2 #[.val (.int (0 : Int32)), .val (.ref a1)] [(.ref a1), (.int (0 : Int32))])) (by intro t k; exact XS.aloadN X0.here hx rfl (hb hby d29_1) rfl rfl k) ?_
  obtain ⟨_, _, ⟨T1, Lz1, kz1, nz1⟩, -, X1, ⟨Lc1, hQ1, lz1, yz1, zz1⟩, st1⟩ := Jvm.LawKit.callS X0 hx (y := (⟨"java/lang/StringUTF16", "length", "([B)I"⟩ : MethodName)) hown (mvT hZ (hw _ (List.mem_of_getElem? (i := 136) rfl))) (mvT hZ (hw _ (List.mem_of_getElem? (i := 137) rfl))) (mvT hZ (hw _ (List.mem_of_getElem? (i := 24) rfl))) (mvT hZ (hw _ (List.mem_of_getElem? (i := 138) rfl))) (by decide) (backOf (W := 1) (rm30 l Z aw hw [] a1 x0 x1 x2 x3 h0 n0 Z0 A_a1) hZ (hw _ (List.mem_of_getElem? (i := 138) rfl)) (hw _ (List.mem_of_getElem? (i := 24) rfl)) (by decide) (by decide)) (g := (mkF m 2 #[.val (.int (0 : Int32)), .val (.ref a1)] [(.ref a1), (.int (0 : Int32))])) rfl (by rw [hml]; rfl) (argsL := [(.ref a1)]) (rest := [(.int (0 : Int32))]) (lenOf pd_285bB29I rfl) rfl (by show 2 * 0 + _ ≤ _; exact Nat.le_of_eq rfl) (hb hby d29_2) (fun _ _ => ⟨rfl, e0, (by decide : 0 + 0 ≤ _), (by decide : 0 + 0 ≤ _)⟩)
  dsimp only [Pt.U, Pt.locs, Pt.cells, Pt.slots] at X1 lz1 yz1 zz1 st1 hQ1
  subst lz1 yz1 zz1
  obtain ⟨rfl, N1q, e1⟩ := hQ1
  have N1 := Fr.app N0 N1q
  refine go st1 ?_
  show Run _ _ _ _ _ _ _ T1 (mkF m 5 #[.val (.int (0 : Int32)), .val (.ref a1)] [(.int (2 : Int32)), (.int (0 : Int32))])
  obtain ⟨_, _, ⟨T2, Lz2, kz2, nz2⟩, -, X2, ⟨Lc2, hQ2, lz2, yz2, zz2⟩, st2⟩ := Jvm.LawKit.callS X1 hx (y := (⟨"java/lang/String", "checkIndex", "(II)V"⟩ : MethodName)) hown (mvT hZ (hw _ (List.mem_of_getElem? (i := 139) rfl))) (mvT hZ (hw _ (List.mem_of_getElem? (i := 86) rfl))) (mvT hZ (hw _ (List.mem_of_getElem? (i := 10) rfl))) (mvT hZ (hw _ (List.mem_of_getElem? (i := 87) rfl))) (by decide) (backOf (W := 0) (rm17 l Z aw hw [] (0 : Int32) (2 : Int32) wf h0 n0 Z0 O0 S_sf hwf (by decide) (by decide)) hZ (hw _ (List.mem_of_getElem? (i := 87) rfl)) (hw _ (List.mem_of_getElem? (i := 10) rfl)) (by decide) (by decide)) (g := (mkF m 5 #[.val (.int (0 : Int32)), .val (.ref a1)] [(.int (2 : Int32)), (.int (0 : Int32))])) rfl (by rw [hml]; rfl) (argsL := [(.int (0 : Int32)), (.int (2 : Int32))]) (rest := []) (lenOf pd_28II29V rfl) rfl (by show 2 * 0 + _ ≤ _; exact Nat.le_of_eq rfl) (hb hby d29_5) (fun _ _ => ⟨rfl, e1, (by decide : 0 + 0 ≤ _), (by decide : 0 + 0 ≤ _)⟩)
  dsimp only [Pt.U, Pt.locs, Pt.cells, Pt.slots] at X2 lz2 yz2 zz2 st2 hQ2
  subst lz2 yz2 zz2
  obtain ⟨rfl, N2q, e2⟩ := hQ2
  have N2 := Fr.app N1 N2q
  refine go st2 ?_
  show Run _ _ _ _ _ _ _ T2 (mkF m 8 #[.val (.int (0 : Int32)), .val (.ref a1)] [])
  refine retV X2 hx Bd.returns (hb hby d29_8) hlk (by decide) (by decide) ?_
  show Q29 Z a1 wf x0 x1 x2 x3 h0 n0 _ T2.heap _
  rw [e2]
  exact ⟨rfl, N2, rfl⟩
theorem d27_0 : decode jdk_52_method_5_code 0 = .ok (.getstatic 44, 3) := by decide +kernel
theorem d27_3 : decode jdk_52_method_5_code 3 = .ok (.ifCond .ne 25, 3) := by decide +kernel
theorem d27_28 : decode jdk_52_method_5_code 28 = .ok (.iload_n 1, 1) := by decide +kernel
theorem d27_29 : decode jdk_52_method_5_code 29 = .ok (.iconst 1, 1) := by decide +kernel
theorem d27_30 : decode jdk_52_method_5_code 30 = .ok (.ishl, 1) := by decide +kernel
theorem d27_31 : decode jdk_52_method_5_code 31 = .ok (.istore_n 1, 1) := by decide +kernel
theorem d27_32 : decode jdk_52_method_5_code 32 = .ok (.aload_n 0, 1) := by decide +kernel
theorem d27_33 : decode jdk_52_method_5_code 33 = .ok (.iload_n 1, 1) := by decide +kernel
theorem d27_34 : decode jdk_52_method_5_code 34 = .ok (.iinc 1 1, 3) := by decide +kernel
theorem d27_37 : decode jdk_52_method_5_code 37 = .ok (.baload, 1) := by decide +kernel
theorem d27_38 : decode jdk_52_method_5_code 38 = .ok (.sipush 255, 3) := by decide +kernel
theorem d27_41 : decode jdk_52_method_5_code 41 = .ok (.iand, 1) := by decide +kernel
theorem d27_42 : decode jdk_52_method_5_code 42 = .ok (.getstatic 59, 3) := by decide +kernel
theorem d27_45 : decode jdk_52_method_5_code 45 = .ok (.ishl, 1) := by decide +kernel
theorem d27_46 : decode jdk_52_method_5_code 46 = .ok (.aload_n 0, 1) := by decide +kernel
theorem d27_47 : decode jdk_52_method_5_code 47 = .ok (.iload_n 1, 1) := by decide +kernel
theorem d27_48 : decode jdk_52_method_5_code 48 = .ok (.baload, 1) := by decide +kernel
theorem d27_49 : decode jdk_52_method_5_code 49 = .ok (.sipush 255, 3) := by decide +kernel
theorem d27_52 : decode jdk_52_method_5_code 52 = .ok (.iand, 1) := by decide +kernel
theorem d27_53 : decode jdk_52_method_5_code 53 = .ok (.getstatic 63, 3) := by decide +kernel
theorem d27_56 : decode jdk_52_method_5_code 56 = .ok (.ishl, 1) := by decide +kernel
theorem d27_57 : decode jdk_52_method_5_code 57 = .ok (.ior, 1) := by decide +kernel
theorem d27_58 : decode jdk_52_method_5_code 58 = .ok (.i2c, 1) := by decide +kernel
theorem d27_59 : decode jdk_52_method_5_code 59 = .ok (.ireturn, 1) := by decide +kernel
theorem ef_27 (m : MethodId) (x0 : Addr) : entryFrame m #[(.ref x0), (.int (0 : Int32))] 2 = mkF m 0 #[.val (.ref x0), .val (.int (0 : Int32))] [] := by first | (simp [entryFrame, mkF, argsToLocals, Value.category]; done) | rfl
def Q27 (Z : State) (a0 : Addr) (x0 x1 x2 x3 : Int32) (y : Int32) (h0 : Heap) (n0 : Nat) (v : Option Value) (h : Heap) (L : List Loc) : Prop := v = some (.int y) ∧ Fr n0 L ∧ h = h0
set_option maxRecDepth 65536 in
set_option maxHeartbeats 40000000 in
theorem rm27 (l : Launch) (Z : State) (aw : Array Value) (hw : ∀ d ∈ tables_1, d.before aw Z = true) (ws : List Jvm.Cond) (a0 : Addr) (x0 x1 x2 x3 : Int32) (y : Int32) (h0 : Heap) (n0 : Nat) (Z0 : n0 ≤ h0.size) (O0 : Old Z n0 h0) (S_ad : Sta Z Z.heap "java/lang/StringUTF16" "$assertionsDisabled" "Z" (.int (1 : Int32))) (S_hi : Sta Z Z.heap "java/lang/StringUTF16" "HI_BYTE_SHIFT" "I" (.int (0 : Int32))) (S_lo : Sta Z Z.heap "java/lang/StringUTF16" "LO_BYTE_SHIFT" "I" (.int (8 : Int32))) (A_a0 : Ary Z h0 a0 .byte [(.int x0), (.int x1), (.int x2), (.int x3)]) (hy : (nar .char ((((x0 &&& (255 : Int32)) <<< ((0 : Int32) &&& 31)) ||| ((x1 &&& (255 : Int32)) <<< ((8 : Int32) &&& 31))).toUInt32.toUInt16.toUInt32.toInt32)) = y) :
    MetFree l (⟨"java/lang/StringUTF16", "getChar", "([BI)C"⟩ : MethodName) (head1 (Jvm.Cond.code (⟨"java/lang/StringUTF16", "getChar", "([BI)C"⟩ : MethodName) jdk_52_method_5_code 2 (some .char) :: ws) ({ frames := 0, cells := 0, slots := 0, locals := 0 } : Room)) (fun a U => a = #[(.ref a0), (.int (0 : Int32))] ∧ Z.Warmed39 U.vm ∧ U.heap = h0) (fun _ _ _ _ _ => True) (fun _ U o U' => ∃ v L, o = .returned v ∧ Q27 Z a0 x0 x1 x2 x3 y h0 n0 v U'.heap L ∧ FrameEnd U o U' L ({ frames := 0, cells := 0, slots := 0, locals := 0 } : Room).cells ({ frames := 0, cells := 0, slots := 0, locals := 0 } : Room).slots) := by
  refine MetFree.of_bodySF (plainFor_of_name pn_6) hisR ?_
  intro p e s m args below meth c s₁ Bd hml0 hP hK
  obtain ⟨rfl, hZ, hh⟩ := hP
  have hx := Bd.exec
  have hby := Bd.bytes
  have hml : c.maxLocals = 2 := hml0
  have hown : s.vm.findClass "java/lang/StringUTF16" = some m.cls := findClass_of_methodNamed Bd.named
  have hnm := (name_of_methodNamed Bd.named Bd.method).1
  have hlk : meth.locks = false := BodyLoose.notSynchronized Bd
  have X0 : Stand p l e ({ frames := 0, cells := 0, slots := 0, locals := 0 } : Room) s m #[(.ref a0), (.int (0 : Int32))] below meth c s₁ [] 0 0 := Stand.of_body Bd
  have e0 : s₁.heap = h0 := by rw [← hh, Bd.state]; rfl
  have N0 := Fr.nil n0
  show Run p e s below (Q27 Z a0 x0 x1 x2 x3 y h0 n0) ({ frames := 0, cells := 0, slots := 0, locals := 0 } : Room).cells ({ frames := 0, cells := 0, slots := 0, locals := 0 } : Room).slots s₁ (entryFrame m #[(.ref a0), (.int (0 : Int32))] 2)
  rw [ef_27]
  show Run _ _ _ _ _ _ _ s₁ (mkF m 0 #[.val (.ref a0), .val (.int (0 : Int32))] [])
  obtain ⟨T1, X1, e1, st1⟩ := getS2 X0 hx hZ hown (host := "") (Or.inl (hw _ (List.mem_of_getElem? (i := 124) rfl))) Via.refl e0 (S_ad.ext O0.2) (g := (mkF m 0 #[.val (.ref a0), .val (.int (0 : Int32))] [])) rfl (hb hby d27_0)
  refine go st1 ?_
  show Run _ _ _ _ _ _ _ T1 (mkF m 3 #[.val (.ref a0), .val (.int (0 : Int32))] [(.int (1 : Int32))])
  refine go (T' := T1) (f' := (mkF m 28 #[.val (.ref a0), .val (.int (0 : Int32))] [])) (by intro t k; exact XS.ifYes X1.here hx rfl (pc0 := 3) (pc' := 28) rfl (hb hby d27_3) rfl ((if0 _ _).trans (feq (by decide : ¬ ((1 : Int32) = (0 : Int32)))).2) (by decide) (by decide) k) ?_
  refine go (T' := T1) (f' := (mkF m 29 #[.val (.ref a0), .val (.int (0 : Int32))] [(.int (0 : Int32))])) (by intro t k; exact XS.iloadN X1.here hx rfl (hb hby d27_28) rfl k) ?_
  refine go (T' := T1) (f' := (mkF m 30 #[.val (.ref a0), .val (.int (0 : Int32))] [(.int (1 : Int32)), (.int (0 : Int32))])) (by intro t k; exact XS.iconst X1.here hx rfl (hb hby d27_29) k) ?_
  refine go (T' := T1) (f' := (mkF m 31 #[.val (.ref a0), .val (.int (0 : Int32))] [(.int (0 : Int32))])) (by intro t k; exact XS.ishl X1.here hx rfl (hb hby d27_30) rfl k) ?_
  refine go (T' := T1) (f' := (mkF m 32 #[.val (.ref a0), .val (.int (0 : Int32))] [])) (by intro t k; exact XS.istoreN X1.here hx rfl (hb hby d27_31) rfl (l' := #[.val (.ref a0), .val (.int (0 : Int32))]) rfl k) ?_
  refine go (T' := T1) (f' := (mkF m 33 #[.val (.ref a0), .val (.int (0 : Int32))] [(.ref a0)])) (by intro t k; exact XS.aloadN X1.here hx rfl (hb hby d27_32) rfl rfl k) ?_
  refine go (T' := T1) (f' := (mkF m 34 #[.val (.ref a0), .val (.int (0 : Int32))] [(.int (0 : Int32)), (.ref a0)])) (by intro t k; exact XS.iloadN X1.here hx rfl (hb hby d27_33) rfl k) ?_
  refine go (T' := T1) (f' := (mkF m 37 #[.val (.ref a0), .val (.int (1 : Int32))] [(.int (0 : Int32)), (.ref a0)])) (by intro t k; exact XS.iinc X1.here hx rfl (hb hby d27_34) rfl (l' := #[.val (.ref a0), .val (.int (1 : Int32))]) rfl k) ?_
  refine go (T' := T1) (f' := (mkF m 38 #[.val (.ref a0), .val (.int (1 : Int32))] [(.int x0)])) (by intro t k; exact ldB X1 hx hZ e1 A_a0 (j := (0 : Int32)) (v := (.int x0)) (by decide) rfl (g := (mkF m 37 #[.val (.ref a0), .val (.int (1 : Int32))] [(.int (0 : Int32)), (.ref a0)])) rfl rfl (hb hby d27_37) _ k) ?_
  refine go (T' := T1) (f' := (mkF m 41 #[.val (.ref a0), .val (.int (1 : Int32))] [(.int (255 : Int32)), (.int x0)])) (by intro t k; exact XS.sipush X1.here hx rfl (hb hby d27_38) k) ?_
  refine go (T' := T1) (f' := (mkF m 42 #[.val (.ref a0), .val (.int (1 : Int32))] [(.int (x0 &&& (255 : Int32)))])) (by intro t k; exact XS.iand X1.here hx rfl (hb hby d27_41) rfl k) ?_
  obtain ⟨T2, X2, e2, st2⟩ := getS2 X1 hx hZ hown (host := "") (Or.inl (hw _ (List.mem_of_getElem? (i := 125) rfl))) Via.refl e1 (S_hi.ext O0.2) (g := (mkF m 42 #[.val (.ref a0), .val (.int (1 : Int32))] [(.int (x0 &&& (255 : Int32)))])) rfl (hb hby d27_42)
  refine go st2 ?_
  show Run _ _ _ _ _ _ _ T2 (mkF m 45 #[.val (.ref a0), .val (.int (1 : Int32))] [(.int (0 : Int32)), (.int (x0 &&& (255 : Int32)))])
  refine go (T' := T2) (f' := (mkF m 46 #[.val (.ref a0), .val (.int (1 : Int32))] [(.int (((x0 &&& (255 : Int32)) <<< ((0 : Int32) &&& 31))))])) (by intro t k; exact XS.ishl X2.here hx rfl (hb hby d27_45) rfl k) ?_
  refine go (T' := T2) (f' := (mkF m 47 #[.val (.ref a0), .val (.int (1 : Int32))] [(.ref a0), (.int (((x0 &&& (255 : Int32)) <<< ((0 : Int32) &&& 31))))])) (by intro t k; exact XS.aloadN X2.here hx rfl (hb hby d27_46) rfl rfl k) ?_
  refine go (T' := T2) (f' := (mkF m 48 #[.val (.ref a0), .val (.int (1 : Int32))] [(.int (1 : Int32)), (.ref a0), (.int (((x0 &&& (255 : Int32)) <<< ((0 : Int32) &&& 31))))])) (by intro t k; exact XS.iloadN X2.here hx rfl (hb hby d27_47) rfl k) ?_
  refine go (T' := T2) (f' := (mkF m 49 #[.val (.ref a0), .val (.int (1 : Int32))] [(.int x1), (.int (((x0 &&& (255 : Int32)) <<< ((0 : Int32) &&& 31))))])) (by intro t k; exact ldB X2 hx hZ e2 A_a0 (j := (1 : Int32)) (v := (.int x1)) (by decide) rfl (g := (mkF m 48 #[.val (.ref a0), .val (.int (1 : Int32))] [(.int (1 : Int32)), (.ref a0), (.int (((x0 &&& (255 : Int32)) <<< ((0 : Int32) &&& 31))))])) rfl rfl (hb hby d27_48) _ k) ?_
  refine go (T' := T2) (f' := (mkF m 52 #[.val (.ref a0), .val (.int (1 : Int32))] [(.int (255 : Int32)), (.int x1), (.int (((x0 &&& (255 : Int32)) <<< ((0 : Int32) &&& 31))))])) (by intro t k; exact XS.sipush X2.here hx rfl (hb hby d27_49) k) ?_
  refine go (T' := T2) (f' := (mkF m 53 #[.val (.ref a0), .val (.int (1 : Int32))] [(.int (x1 &&& (255 : Int32))), (.int (((x0 &&& (255 : Int32)) <<< ((0 : Int32) &&& 31))))])) (by intro t k; exact XS.iand X2.here hx rfl (hb hby d27_52) rfl k) ?_
  obtain ⟨T3, X3, e3, st3⟩ := getS2 X2 hx hZ hown (host := "") (Or.inl (hw _ (List.mem_of_getElem? (i := 126) rfl))) Via.refl e2 (S_lo.ext O0.2) (g := (mkF m 53 #[.val (.ref a0), .val (.int (1 : Int32))] [(.int (x1 &&& (255 : Int32))), (.int (((x0 &&& (255 : Int32)) <<< ((0 : Int32) &&& 31))))])) rfl (hb hby d27_53)
  refine go st3 ?_
  show Run _ _ _ _ _ _ _ T3 (mkF m 56 #[.val (.ref a0), .val (.int (1 : Int32))] [(.int (8 : Int32)), (.int (x1 &&& (255 : Int32))), (.int (((x0 &&& (255 : Int32)) <<< ((0 : Int32) &&& 31))))])
  refine go (T' := T3) (f' := (mkF m 57 #[.val (.ref a0), .val (.int (1 : Int32))] [(.int (((x1 &&& (255 : Int32)) <<< ((8 : Int32) &&& 31)))), (.int (((x0 &&& (255 : Int32)) <<< ((0 : Int32) &&& 31))))])) (by intro t k; exact XS.ishl X3.here hx rfl (hb hby d27_56) rfl k) ?_
  refine go (T' := T3) (f' := (mkF m 58 #[.val (.ref a0), .val (.int (1 : Int32))] [(.int ((((x0 &&& (255 : Int32)) <<< ((0 : Int32) &&& 31))) ||| (((x1 &&& (255 : Int32)) <<< ((8 : Int32) &&& 31)))))])) (by intro t k; exact XS.ior X3.here hx rfl (hb hby d27_57) rfl k) ?_
  refine go (T' := T3) (f' := (mkF m 59 #[.val (.ref a0), .val (.int (1 : Int32))] [(.int ((((((x0 &&& (255 : Int32)) <<< ((0 : Int32) &&& 31))) ||| (((x1 &&& (255 : Int32)) <<< ((8 : Int32) &&& 31))))).toUInt32.toUInt16.toUInt32.toInt32))])) (by intro t k; exact XS.i2c X3.here hx rfl (hb hby d27_58) rfl k) ?_
  refine retZ X3 hx (t := .char) Bd.returns (by simp) (hb hby d27_59) hlk (by decide) (by decide) ?_
  show Q27 Z a0 x0 x1 x2 x3 y h0 n0 _ T3.heap _
  rw [e3]
  have hv' : (nar .char ((((((x0 &&& (255 : Int32)) <<< ((0 : Int32) &&& 31))) ||| (((x1 &&& (255 : Int32)) <<< ((8 : Int32) &&& 31))))).toUInt32.toUInt16.toUInt32.toInt32)) = y := by
    exact hy
  have hv : (some (.int (nar .char ((((((x0 &&& (255 : Int32)) <<< ((0 : Int32) &&& 31))) ||| (((x1 &&& (255 : Int32)) <<< ((8 : Int32) &&& 31))))).toUInt32.toUInt16.toUInt32.toInt32))) : Option Value) = some (.int y) := congrArg (fun z => (some (.int z) : Option Value)) hv'
  exact ⟨hv, N0, rfl⟩
theorem d28_0 : decode jdk_52_method_83_code 0 = .ok (.iload_n 1, 1) := by decide +kernel
theorem d28_1 : decode jdk_52_method_83_code 1 = .ok (.aload_n 0, 1) := by decide +kernel
theorem d28_2 : decode jdk_52_method_83_code 2 = .ok (.invokestatic 67, 3) := by decide +kernel
theorem d28_5 : decode jdk_52_method_83_code 5 = .ok (.aload_n 0, 1) := by decide +kernel
theorem d28_6 : decode jdk_52_method_83_code 6 = .ok (.iload_n 1, 1) := by decide +kernel
theorem d28_7 : decode jdk_52_method_83_code 7 = .ok (.invokestatic 71, 3) := by decide +kernel
theorem d28_10 : decode jdk_52_method_83_code 10 = .ok (.ireturn, 1) := by decide +kernel
theorem pd_28I5bB29V : parseMethodDescriptor "(I[B)V" = some ⟨[.int, (.array .byte)], none⟩ := by decide +kernel
theorem ef_28 (m : MethodId) (x0 : Addr) : entryFrame m #[(.ref x0), (.int (0 : Int32))] 2 = mkF m 0 #[.val (.ref x0), .val (.int (0 : Int32))] [] := by first | (simp [entryFrame, mkF, argsToLocals, Value.category]; done) | rfl
def Q28 (Z : State) (a0 : Addr) (wf : Value) (x0 x1 x2 x3 : Int32) (y : Int32) (h0 : Heap) (n0 : Nat) (v : Option Value) (h : Heap) (L : List Loc) : Prop := v = some (.int y) ∧ Fr n0 L ∧ h = h0
set_option maxRecDepth 65536 in
set_option maxHeartbeats 40000000 in
theorem rm28 (l : Launch) (Z : State) (aw : Array Value) (hw : ∀ d ∈ tables_1, d.before aw Z = true) (ws : List Jvm.Cond) (a0 : Addr) (wf : Value) (x0 x1 x2 x3 : Int32) (y : Int32) (h0 : Heap) (n0 : Nat) (Z0 : n0 ≤ h0.size) (O0 : Old Z n0 h0) (S_sf : Sta Z Z.heap "jdk/internal/util/Preconditions" "SIOOBE_FORMATTER" "Ljava/util/function/BiFunction;" wf) (hwf : wf.isRef = true) (S_ad : Sta Z Z.heap "java/lang/StringUTF16" "$assertionsDisabled" "Z" (.int (1 : Int32))) (S_hi : Sta Z Z.heap "java/lang/StringUTF16" "HI_BYTE_SHIFT" "I" (.int (0 : Int32))) (S_lo : Sta Z Z.heap "java/lang/StringUTF16" "LO_BYTE_SHIFT" "I" (.int (8 : Int32))) (A_a0 : Ary Z h0 a0 .byte [(.int x0), (.int x1), (.int x2), (.int x3)]) (hy : (nar .char ((((x0 &&& (255 : Int32)) <<< ((0 : Int32) &&& 31)) ||| ((x1 &&& (255 : Int32)) <<< ((8 : Int32) &&& 31))).toUInt32.toUInt16.toUInt32.toInt32)) = y) :
    MetFree l (⟨"java/lang/StringUTF16", "charAt", "([BI)C"⟩ : MethodName) (head1 (Jvm.Cond.code (⟨"java/lang/StringUTF16", "charAt", "([BI)C"⟩ : MethodName) jdk_52_method_83_code 2 (some .char) :: ws) ({ frames := 3, cells := 0, slots := 0, locals := 40 } : Room)) (fun a U => a = #[(.ref a0), (.int (0 : Int32))] ∧ Z.Warmed39 U.vm ∧ U.heap = h0) (fun _ _ _ _ _ => True) (fun _ U o U' => ∃ v L, o = .returned v ∧ Q28 Z a0 wf x0 x1 x2 x3 y h0 n0 v U'.heap L ∧ FrameEnd U o U' L ({ frames := 3, cells := 0, slots := 0, locals := 40 } : Room).cells ({ frames := 3, cells := 0, slots := 0, locals := 40 } : Room).slots) := by
  refine MetFree.of_bodySF (plainFor_of_name pn_6) hisR ?_
  intro p e s m args below meth c s₁ Bd hml0 hP hK
  obtain ⟨rfl, hZ, hh⟩ := hP
  have hx := Bd.exec
  have hby := Bd.bytes
  have hml : c.maxLocals = 2 := hml0
  have hown : s.vm.findClass "java/lang/StringUTF16" = some m.cls := findClass_of_methodNamed Bd.named
  have hnm := (name_of_methodNamed Bd.named Bd.method).1
  have hlk : meth.locks = false := BodyLoose.notSynchronized Bd
  have X0 : Stand p l e ({ frames := 3, cells := 0, slots := 0, locals := 40 } : Room) s m #[(.ref a0), (.int (0 : Int32))] below meth c s₁ [] 0 0 := Stand.of_body Bd
  have e0 : s₁.heap = h0 := by rw [← hh, Bd.state]; rfl
  have N0 := Fr.nil n0
  show Run p e s below (Q28 Z a0 wf x0 x1 x2 x3 y h0 n0) ({ frames := 3, cells := 0, slots := 0, locals := 40 } : Room).cells ({ frames := 3, cells := 0, slots := 0, locals := 40 } : Room).slots s₁ (entryFrame m #[(.ref a0), (.int (0 : Int32))] 2)
  rw [ef_28]
  show Run _ _ _ _ _ _ _ s₁ (mkF m 0 #[.val (.ref a0), .val (.int (0 : Int32))] [])
  refine go (T' := s₁) (f' := (mkF m 1 #[.val (.ref a0), .val (.int (0 : Int32))] [(.int (0 : Int32))])) (by intro t k; exact XS.iloadN X0.here hx rfl (hb hby d28_0) rfl k) ?_
  refine go (T' := s₁) (f' := (mkF m 2 #[.val (.ref a0), .val (.int (0 : Int32))] [(.ref a0), (.int (0 : Int32))])) (by intro t k; exact XS.aloadN X0.here hx rfl (hb hby d28_1) rfl rfl k) ?_
  obtain ⟨_, _, ⟨T1, Lz1, kz1, nz1⟩, -, X1, ⟨Lc1, hQ1, lz1, yz1, zz1⟩, st1⟩ := Jvm.LawKit.callS X0 hx (y := (⟨"java/lang/StringUTF16", "checkIndex", "(I[B)V"⟩ : MethodName)) hown (mvT hZ (hw _ (List.mem_of_getElem? (i := 133) rfl))) (mvT hZ (hw _ (List.mem_of_getElem? (i := 134) rfl))) (mvT hZ (hw _ (List.mem_of_getElem? (i := 24) rfl))) (mvT hZ (hw _ (List.mem_of_getElem? (i := 135) rfl))) (by decide) (backOf (W := 0) (rm29 l Z aw hw [] a0 wf x0 x1 x2 x3 h0 n0 Z0 O0 S_sf hwf A_a0) hZ (hw _ (List.mem_of_getElem? (i := 135) rfl)) (hw _ (List.mem_of_getElem? (i := 24) rfl)) (by decide) (by decide)) (g := (mkF m 2 #[.val (.ref a0), .val (.int (0 : Int32))] [(.ref a0), (.int (0 : Int32))])) rfl (by rw [hml]; rfl) (argsL := [(.int (0 : Int32)), (.ref a0)]) (rest := []) (lenOf pd_28I5bB29V rfl) rfl (by show 2 * 0 + _ ≤ _; exact Nat.le_of_eq rfl) (hb hby d28_2) (fun _ _ => ⟨rfl, e0, (by decide : 0 + 0 ≤ _), (by decide : 0 + 0 ≤ _)⟩)
  dsimp only [Pt.U, Pt.locs, Pt.cells, Pt.slots] at X1 lz1 yz1 zz1 st1 hQ1
  subst lz1 yz1 zz1
  obtain ⟨rfl, N1q, e1⟩ := hQ1
  have N1 := Fr.app N0 N1q
  refine go st1 ?_
  show Run _ _ _ _ _ _ _ T1 (mkF m 5 #[.val (.ref a0), .val (.int (0 : Int32))] [])
  refine go (T' := T1) (f' := (mkF m 6 #[.val (.ref a0), .val (.int (0 : Int32))] [(.ref a0)])) (by intro t k; exact XS.aloadN X1.here hx rfl (hb hby d28_5) rfl rfl k) ?_
  refine go (T' := T1) (f' := (mkF m 7 #[.val (.ref a0), .val (.int (0 : Int32))] [(.int (0 : Int32)), (.ref a0)])) (by intro t k; exact XS.iloadN X1.here hx rfl (hb hby d28_6) rfl k) ?_
  obtain ⟨_, _, ⟨T2, Lz2, kz2, nz2⟩, -, X2, ⟨Lc2, hQ2, lz2, yz2, zz2⟩, st2⟩ := Jvm.LawKit.callS X1 hx (y := (⟨"java/lang/StringUTF16", "getChar", "([BI)C"⟩ : MethodName)) hown (mvT hZ (hw _ (List.mem_of_getElem? (i := 127) rfl))) (mvT hZ (hw _ (List.mem_of_getElem? (i := 128) rfl))) (mvT hZ (hw _ (List.mem_of_getElem? (i := 24) rfl))) (mvT hZ (hw _ (List.mem_of_getElem? (i := 129) rfl))) (by decide) (backOf (W := 0) (rm27 l Z aw hw [] a0 x0 x1 x2 x3 y h0 n0 Z0 O0 S_ad S_hi S_lo A_a0 hy) hZ (hw _ (List.mem_of_getElem? (i := 129) rfl)) (hw _ (List.mem_of_getElem? (i := 24) rfl)) (by decide) (by decide)) (g := (mkF m 7 #[.val (.ref a0), .val (.int (0 : Int32))] [(.int (0 : Int32)), (.ref a0)])) rfl (by rw [hml]; rfl) (argsL := [(.ref a0), (.int (0 : Int32))]) (rest := []) (lenOf pd_285bBI29C rfl) rfl (by show 2 * 0 + _ ≤ _; exact Nat.le_of_eq rfl) (hb hby d28_7) (fun _ _ => ⟨rfl, e1, (by decide : 0 + 0 ≤ _), (by decide : 0 + 0 ≤ _)⟩)
  dsimp only [Pt.U, Pt.locs, Pt.cells, Pt.slots] at X2 lz2 yz2 zz2 st2 hQ2
  subst lz2 yz2 zz2
  obtain ⟨rfl, N2q, e2⟩ := hQ2
  have N2 := Fr.app N1 N2q
  refine go st2 ?_
  show Run _ _ _ _ _ _ _ T2 (mkF m 10 #[.val (.ref a0), .val (.int (0 : Int32))] [(.int y)])
  refine retZ X2 hx (t := .char) Bd.returns (by simp) (hb hby d28_10) hlk (by decide) (by decide) ?_
  show Q28 Z a0 wf x0 x1 x2 x3 y h0 n0 _ T2.heap _
  rw [e2]
  have hv' : (nar .char y) = y := by
    rw [← hy]; exact own_nar2 _
  have hv : (some (.int (nar .char y)) : Option Value) = some (.int y) := congrArg (fun z => (some (.int z) : Option Value)) hv'
  exact ⟨hv, N2, rfl⟩
theorem d14_16 : decode jdk_42_method_56_code 16 = .ok (.aload_n 0, 1) := by decide +kernel
theorem d14_17 : decode jdk_42_method_56_code 17 = .ok (.getfield 9, 3) := by decide +kernel
theorem d14_20 : decode jdk_42_method_56_code 20 = .ok (.iload_n 1, 1) := by decide +kernel
theorem d14_21 : decode jdk_42_method_56_code 21 = .ok (.invokestatic 498, 3) := by decide +kernel
theorem d14_24 : decode jdk_42_method_56_code 24 = .ok (.ireturn, 1) := by decide +kernel
theorem ef_14u (m : MethodId) (x0 : Addr) : entryFrame m #[(.ref x0), (.int (0 : Int32))] 2 = mkF m 0 #[.val (.ref x0), .val (.int (0 : Int32))] [] := by first | (simp [entryFrame, mkF, argsToLocals, Value.category]; done) | rfl
def Q14u (Z : State) (a0 : Addr) (cs : Int32) (wf : Value) (b : Addr) (x0 x1 x2 x3 : Int32) (y : Int32) (h0 : Heap) (n0 : Nat) (v : Option Value) (h : Heap) (L : List Loc) : Prop := v = some (.int y) ∧ Fr n0 L ∧ h = h0
set_option maxRecDepth 65536 in
set_option maxHeartbeats 40000000 in
theorem rm14u (l : Launch) (Z : State) (aw : Array Value) (hw : ∀ d ∈ tables_1, d.before aw Z = true) (ws : List Jvm.Cond) (a0 : Addr) (cs : Int32) (wf : Value) (b : Addr) (x0 x1 x2 x3 : Int32) (y : Int32) (h0 : Heap) (n0 : Nat) (Z0 : n0 ≤ h0.size) (O0 : Old Z n0 h0) (S_cs : Sta Z Z.heap "java/lang/String" "COMPACT_STRINGS" "Z" (.int cs)) (hcs : ¬ (cs = (0 : Int32))) (S_sf : Sta Z Z.heap "jdk/internal/util/Preconditions" "SIOOBE_FORMATTER" "Ljava/util/function/BiFunction;" wf) (hwf : wf.isRef = true) (S_ad : Sta Z Z.heap "java/lang/StringUTF16" "$assertionsDisabled" "Z" (.int (1 : Int32))) (S_hi : Sta Z Z.heap "java/lang/StringUTF16" "HI_BYTE_SHIFT" "I" (.int (0 : Int32))) (S_lo : Sta Z Z.heap "java/lang/StringUTF16" "LO_BYTE_SHIFT" "I" (.int (8 : Int32))) (E_a0 : Exa Z h0 a0 "java/lang/String") (F_c : Fld Z h0 a0 "java/lang/String" "coder" "B" (.int (1 : Int32))) (F_v : Fld Z h0 a0 "java/lang/String" "value" "[B" (.ref b)) (A_b : Ary Z h0 b .byte [(.int x0), (.int x1), (.int x2), (.int x3)]) (hy : (nar .char ((((x0 &&& (255 : Int32)) <<< ((0 : Int32) &&& 31)) ||| ((x1 &&& (255 : Int32)) <<< ((8 : Int32) &&& 31))).toUInt32.toUInt16.toUInt32.toInt32)) = y) :
    MetFree l (⟨"java/lang/String", "charAt", "(I)C"⟩ : MethodName) (head1 (Jvm.Cond.code (⟨"java/lang/String", "charAt", "(I)C"⟩ : MethodName) jdk_42_method_56_code 2 (some .char) :: ws) ({ frames := 4, cells := 0, slots := 0, locals := 53 } : Room)) (fun a U => a = #[(.ref a0), (.int (0 : Int32))] ∧ Z.Warmed39 U.vm ∧ U.heap = h0) (fun _ _ _ _ _ => True) (fun _ U o U' => ∃ v L, o = .returned v ∧ Q14u Z a0 cs wf b x0 x1 x2 x3 y h0 n0 v U'.heap L ∧ FrameEnd U o U' L ({ frames := 4, cells := 0, slots := 0, locals := 53 } : Room).cells ({ frames := 4, cells := 0, slots := 0, locals := 53 } : Room).slots) := by
  refine MetFree.of_bodySF (plainFor_of_name pn_13) hisR ?_
  intro p e s m args below meth c s₁ Bd hml0 hP hK
  obtain ⟨rfl, hZ, hh⟩ := hP
  have hx := Bd.exec
  have hby := Bd.bytes
  have hml : c.maxLocals = 2 := hml0
  have hown : s.vm.findClass "java/lang/String" = some m.cls := findClass_of_methodNamed Bd.named
  have hnm := (name_of_methodNamed Bd.named Bd.method).1
  have hlk : meth.locks = false := BodyLoose.notSynchronized Bd
  have X0 : Stand p l e ({ frames := 4, cells := 0, slots := 0, locals := 53 } : Room) s m #[(.ref a0), (.int (0 : Int32))] below meth c s₁ [] 0 0 := Stand.of_body Bd
  have e0 : s₁.heap = h0 := by rw [← hh, Bd.state]; rfl
  have N0 := Fr.nil n0
  show Run p e s below (Q14u Z a0 cs wf b x0 x1 x2 x3 y h0 n0) ({ frames := 4, cells := 0, slots := 0, locals := 53 } : Room).cells ({ frames := 4, cells := 0, slots := 0, locals := 53 } : Room).slots s₁ (entryFrame m #[(.ref a0), (.int (0 : Int32))] 2)
  rw [ef_14u]
  show Run _ _ _ _ _ _ _ s₁ (mkF m 0 #[.val (.ref a0), .val (.int (0 : Int32))] [])
  refine go (T' := s₁) (f' := (mkF m 1 #[.val (.ref a0), .val (.int (0 : Int32))] [(.ref a0)])) (by intro t k; exact XS.aloadN X0.here hx rfl (hb hby d14_0) rfl rfl k) ?_
  obtain ⟨cq1, kq1, q1a, q1b, q1c⟩ := isOf hZ e0 E_a0
  obtain ⟨_, _, ⟨T1, Lz1, kz1, nz1⟩, -, X1, ⟨Lc1, hQ1, lz1, yz1, zz1⟩, st1⟩ := X0.virtualBack hx (y := (⟨"java/lang/String", "isLatin1", "()Z"⟩ : MethodName)) (z := (⟨"java/lang/String", "isLatin1", "()Z"⟩ : MethodName)) hown (mvT hZ (hw _ (List.mem_of_getElem? (i := 76) rfl))) (mvT hZ (hw _ (List.mem_of_getElem? (i := 77) rfl))) (notFace_of_selects (args := #[]) (mvT hZ (hw _ (List.mem_of_getElem? (i := 79) rfl)))) (mvT hZ (hw _ (List.mem_of_getElem? (i := 79) rfl))) (mvT hZ (hw _ (List.mem_of_getElem? (i := 78) rfl))) (by decide) (backOf (W := 0) (rm15u l Z aw hw [] a0 cs h0 n0 Z0 O0 S_cs hcs F_c) hZ (hw _ (List.mem_of_getElem? (i := 80) rfl)) (hw _ (List.mem_of_getElem? (i := 10) rfl)) (by decide) (by decide)) q1a q1c (g := (mkF m 1 #[.val (.ref a0), .val (.int (0 : Int32))] [(.ref a0)])) rfl (by rw [hml]; rfl) (Steps.refl _) (argsL := []) (rest := []) (lenOf pd_2829Z rfl) rfl (by show 2 * 0 + _ ≤ _; exact Nat.le_of_eq rfl) (hb hby d14_1) (fun _ _ => ⟨rfl, e0, (by decide : 0 + 0 ≤ _), (by decide : 0 + 0 ≤ _)⟩)
  dsimp only [Pt.U, Pt.locs, Pt.cells, Pt.slots] at X1 lz1 yz1 zz1 st1 hQ1
  subst lz1 yz1 zz1
  obtain ⟨rfl, N1q, e1⟩ := hQ1
  have N1 := Fr.app N0 N1q
  refine go (fun _ k => st1.trans k) ?_
  show Run _ _ _ _ _ _ _ T1 (mkF m 4 #[.val (.ref a0), .val (.int (0 : Int32))] [(.int (0 : Int32))])
  refine go (T' := T1) (f' := (mkF m 16 #[.val (.ref a0), .val (.int (0 : Int32))] [])) (by intro t k; exact XS.ifYes X1.here hx rfl (pc0 := 4) (pc' := 16) rfl (hb hby d14_4) rfl ((if0 _ _).trans (teq (rfl : (0 : Int32) = (0 : Int32))).1) (by decide) (by decide) k) ?_
  refine go (T' := T1) (f' := (mkF m 17 #[.val (.ref a0), .val (.int (0 : Int32))] [(.ref a0)])) (by intro t k; exact XS.aloadN X1.here hx rfl (hb hby d14_16) rfl rfl k) ?_
  obtain ⟨T2, X2, e2, st2⟩ := getF X1 hx hZ hown (host := "") (Or.inl (hw _ (List.mem_of_getElem? (i := 35) rfl))) Via.refl e1 F_v (g := (mkF m 17 #[.val (.ref a0), .val (.int (0 : Int32))] [(.ref a0)])) rfl rfl (hb hby d14_17)
  refine go st2 ?_
  show Run _ _ _ _ _ _ _ T2 (mkF m 20 #[.val (.ref a0), .val (.int (0 : Int32))] [(.ref b)])
  refine go (T' := T2) (f' := (mkF m 21 #[.val (.ref a0), .val (.int (0 : Int32))] [(.int (0 : Int32)), (.ref b)])) (by intro t k; exact XS.iloadN X2.here hx rfl (hb hby d14_20) rfl k) ?_
  obtain ⟨_, _, ⟨T3, Lz3, kz3, nz3⟩, -, X3, ⟨Lc3, hQ3, lz3, yz3, zz3⟩, st3⟩ := Jvm.LawKit.callS X2 hx (y := (⟨"java/lang/StringUTF16", "charAt", "([BI)C"⟩ : MethodName)) hown (mvT hZ (hw _ (List.mem_of_getElem? (i := 130) rfl))) (mvT hZ (hw _ (List.mem_of_getElem? (i := 131) rfl))) (mvT hZ (hw _ (List.mem_of_getElem? (i := 24) rfl))) (mvT hZ (hw _ (List.mem_of_getElem? (i := 132) rfl))) (by decide) (backOf (W := 0) (rm28 l Z aw hw [] b wf x0 x1 x2 x3 y h0 n0 Z0 O0 S_sf hwf S_ad S_hi S_lo A_b hy) hZ (hw _ (List.mem_of_getElem? (i := 132) rfl)) (hw _ (List.mem_of_getElem? (i := 24) rfl)) (by decide) (by decide)) (g := (mkF m 21 #[.val (.ref a0), .val (.int (0 : Int32))] [(.int (0 : Int32)), (.ref b)])) rfl (by rw [hml]; rfl) (argsL := [(.ref b), (.int (0 : Int32))]) (rest := []) (lenOf pd_285bBI29C rfl) rfl (by show 2 * 0 + _ ≤ _; exact Nat.le_of_eq rfl) (hb hby d14_21) (fun _ _ => ⟨rfl, e2, (by decide : 0 + 0 ≤ _), (by decide : 0 + 0 ≤ _)⟩)
  dsimp only [Pt.U, Pt.locs, Pt.cells, Pt.slots] at X3 lz3 yz3 zz3 st3 hQ3
  subst lz3 yz3 zz3
  obtain ⟨rfl, N3q, e3⟩ := hQ3
  have N3 := Fr.app N1 N3q
  refine go st3 ?_
  show Run _ _ _ _ _ _ _ T3 (mkF m 24 #[.val (.ref a0), .val (.int (0 : Int32))] [(.int y)])
  refine retZ X3 hx (t := .char) Bd.returns (by simp) (hb hby d14_24) hlk (by decide) (by decide) ?_
  show Q14u Z a0 cs wf b x0 x1 x2 x3 y h0 n0 _ T3.heap _
  rw [e3]
  have hv' : (nar .char y) = y := by
    rw [← hy]; exact own_nar2 _
  have hv : (some (.int (nar .char y)) : Option Value) = some (.int y) := congrArg (fun z => (some (.int z) : Option Value)) hv'
  exact ⟨hv, N3, rfl⟩
theorem d26_0 : decode jdk_52_method_4_code 0 = .ok (.getstatic 44, 3) := by decide +kernel
theorem d26_3 : decode jdk_52_method_4_code 3 = .ok (.ifCond .ne 25, 3) := by decide +kernel
theorem d26_28 : decode jdk_52_method_4_code 28 = .ok (.iload_n 1, 1) := by decide +kernel
theorem d26_29 : decode jdk_52_method_4_code 29 = .ok (.iconst 1, 1) := by decide +kernel
theorem d26_30 : decode jdk_52_method_4_code 30 = .ok (.ishl, 1) := by decide +kernel
theorem d26_31 : decode jdk_52_method_4_code 31 = .ok (.istore_n 1, 1) := by decide +kernel
theorem d26_32 : decode jdk_52_method_4_code 32 = .ok (.aload_n 0, 1) := by decide +kernel
theorem d26_33 : decode jdk_52_method_4_code 33 = .ok (.iload_n 1, 1) := by decide +kernel
theorem d26_34 : decode jdk_52_method_4_code 34 = .ok (.iinc 1 1, 3) := by decide +kernel
theorem d26_37 : decode jdk_52_method_4_code 37 = .ok (.iload_n 2, 1) := by decide +kernel
theorem d26_38 : decode jdk_52_method_4_code 38 = .ok (.getstatic 59, 3) := by decide +kernel
theorem d26_41 : decode jdk_52_method_4_code 41 = .ok (.ishr, 1) := by decide +kernel
theorem d26_42 : decode jdk_52_method_4_code 42 = .ok (.i2b, 1) := by decide +kernel
theorem d26_43 : decode jdk_52_method_4_code 43 = .ok (.bastore, 1) := by decide +kernel
theorem d26_44 : decode jdk_52_method_4_code 44 = .ok (.aload_n 0, 1) := by decide +kernel
theorem d26_45 : decode jdk_52_method_4_code 45 = .ok (.iload_n 1, 1) := by decide +kernel
theorem d26_46 : decode jdk_52_method_4_code 46 = .ok (.iload_n 2, 1) := by decide +kernel
theorem d26_47 : decode jdk_52_method_4_code 47 = .ok (.getstatic 63, 3) := by decide +kernel
theorem d26_50 : decode jdk_52_method_4_code 50 = .ok (.ishr, 1) := by decide +kernel
theorem d26_51 : decode jdk_52_method_4_code 51 = .ok (.i2b, 1) := by decide +kernel
theorem d26_52 : decode jdk_52_method_4_code 52 = .ok (.bastore, 1) := by decide +kernel
theorem d26_53 : decode jdk_52_method_4_code 53 = .ok (.return_, 1) := by decide +kernel
theorem ef_26i0 (m : MethodId) (x0 : Addr) (x2 : Int32) : entryFrame m #[(.ref x0), (.int (0 : Int32)), (.int x2)] 3 = mkF m 0 #[.val (.ref x0), .val (.int (0 : Int32)), .val (.int x2)] [] := by first | (simp [entryFrame, mkF, argsToLocals, Value.category]; done) | rfl
def Q26i0 (Z : State) (a0 : Addr) (p2 : Int32) (x0 x1 x2 x3 : Int32) (h0 : Heap) (n0 : Nat) (v : Option Value) (h : Heap) (L : List Loc) : Prop := v = none ∧ Fr n0 L ∧ Keep h0 h [a0] ∧ Ary Z h a0 .byte [(.int (nar .byte (((p2 >>> ((0 : Int32) &&& 31))).toInt8.toInt32))), (.int (nar .byte (((p2 >>> ((8 : Int32) &&& 31))).toInt8.toInt32))), (.int x2), (.int x3)]
set_option maxRecDepth 65536 in
set_option maxHeartbeats 40000000 in
theorem rm26i0 (l : Launch) (Z : State) (aw : Array Value) (hw : ∀ d ∈ tables_1, d.before aw Z = true) (ws : List Jvm.Cond) (a0 : Addr) (p2 : Int32) (x0 x1 x2 x3 : Int32) (h0 : Heap) (n0 : Nat) (Z0 : n0 ≤ h0.size) (O0 : Old Z n0 h0) (S_ad : Sta Z Z.heap "java/lang/StringUTF16" "$assertionsDisabled" "Z" (.int (1 : Int32))) (S_hi : Sta Z Z.heap "java/lang/StringUTF16" "HI_BYTE_SHIFT" "I" (.int (0 : Int32))) (S_lo : Sta Z Z.heap "java/lang/StringUTF16" "LO_BYTE_SHIFT" "I" (.int (8 : Int32))) (A_a0 : Ary Z h0 a0 .byte [(.int x0), (.int x1), (.int x2), (.int x3)]) (g_a0 : n0 ≤ a0) :
    MetFree l (⟨"java/lang/StringUTF16", "putChar", "([BII)V"⟩ : MethodName) (head1 (Jvm.Cond.code (⟨"java/lang/StringUTF16", "putChar", "([BII)V"⟩ : MethodName) jdk_52_method_4_code 3 none :: ws) ({ frames := 0, cells := 0, slots := 0, locals := 0 } : Room)) (fun a U => a = #[(.ref a0), (.int (0 : Int32)), (.int p2)] ∧ Z.Warmed39 U.vm ∧ U.heap = h0) (fun _ _ _ _ _ => True) (fun _ U o U' => ∃ v L, o = .returned v ∧ Q26i0 Z a0 p2 x0 x1 x2 x3 h0 n0 v U'.heap L ∧ FrameEnd U o U' L ({ frames := 0, cells := 0, slots := 0, locals := 0 } : Room).cells ({ frames := 0, cells := 0, slots := 0, locals := 0 } : Room).slots) := by
  refine MetFree.of_bodySF (plainFor_of_name pn_6) hisR ?_
  intro p e s m args below meth c s₁ Bd hml0 hP hK
  obtain ⟨rfl, hZ, hh⟩ := hP
  have hx := Bd.exec
  have hby := Bd.bytes
  have hml : c.maxLocals = 3 := hml0
  have hown : s.vm.findClass "java/lang/StringUTF16" = some m.cls := findClass_of_methodNamed Bd.named
  have hnm := (name_of_methodNamed Bd.named Bd.method).1
  have hlk : meth.locks = false := BodyLoose.notSynchronized Bd
  have X0 : Stand p l e ({ frames := 0, cells := 0, slots := 0, locals := 0 } : Room) s m #[(.ref a0), (.int (0 : Int32)), (.int p2)] below meth c s₁ [] 0 0 := Stand.of_body Bd
  have e0 : s₁.heap = h0 := by rw [← hh, Bd.state]; rfl
  have N0 := Fr.nil n0
  show Run p e s below (Q26i0 Z a0 p2 x0 x1 x2 x3 h0 n0) ({ frames := 0, cells := 0, slots := 0, locals := 0 } : Room).cells ({ frames := 0, cells := 0, slots := 0, locals := 0 } : Room).slots s₁ (entryFrame m #[(.ref a0), (.int (0 : Int32)), (.int p2)] 3)
  rw [ef_26i0]
  show Run _ _ _ _ _ _ _ s₁ (mkF m 0 #[.val (.ref a0), .val (.int (0 : Int32)), .val (.int p2)] [])
  obtain ⟨T1, X1, e1, st1⟩ := getS2 X0 hx hZ hown (host := "") (Or.inl (hw _ (List.mem_of_getElem? (i := 124) rfl))) Via.refl e0 (S_ad.ext O0.2) (g := (mkF m 0 #[.val (.ref a0), .val (.int (0 : Int32)), .val (.int p2)] [])) rfl (hb hby d26_0)
  refine go st1 ?_
  show Run _ _ _ _ _ _ _ T1 (mkF m 3 #[.val (.ref a0), .val (.int (0 : Int32)), .val (.int p2)] [(.int (1 : Int32))])
  refine go (T' := T1) (f' := (mkF m 28 #[.val (.ref a0), .val (.int (0 : Int32)), .val (.int p2)] [])) (by intro t k; exact XS.ifYes X1.here hx rfl (pc0 := 3) (pc' := 28) rfl (hb hby d26_3) rfl ((if0 _ _).trans (feq (by decide : ¬ ((1 : Int32) = (0 : Int32)))).2) (by decide) (by decide) k) ?_
  refine go (T' := T1) (f' := (mkF m 29 #[.val (.ref a0), .val (.int (0 : Int32)), .val (.int p2)] [(.int (0 : Int32))])) (by intro t k; exact XS.iloadN X1.here hx rfl (hb hby d26_28) rfl k) ?_
  refine go (T' := T1) (f' := (mkF m 30 #[.val (.ref a0), .val (.int (0 : Int32)), .val (.int p2)] [(.int (1 : Int32)), (.int (0 : Int32))])) (by intro t k; exact XS.iconst X1.here hx rfl (hb hby d26_29) k) ?_
  refine go (T' := T1) (f' := (mkF m 31 #[.val (.ref a0), .val (.int (0 : Int32)), .val (.int p2)] [(.int (0 : Int32))])) (by intro t k; exact XS.ishl X1.here hx rfl (hb hby d26_30) rfl k) ?_
  refine go (T' := T1) (f' := (mkF m 32 #[.val (.ref a0), .val (.int (0 : Int32)), .val (.int p2)] [])) (by intro t k; exact XS.istoreN X1.here hx rfl (hb hby d26_31) rfl (l' := #[.val (.ref a0), .val (.int (0 : Int32)), .val (.int p2)]) rfl k) ?_
  refine go (T' := T1) (f' := (mkF m 33 #[.val (.ref a0), .val (.int (0 : Int32)), .val (.int p2)] [(.ref a0)])) (by intro t k; exact XS.aloadN X1.here hx rfl (hb hby d26_32) rfl rfl k) ?_
  refine go (T' := T1) (f' := (mkF m 34 #[.val (.ref a0), .val (.int (0 : Int32)), .val (.int p2)] [(.int (0 : Int32)), (.ref a0)])) (by intro t k; exact XS.iloadN X1.here hx rfl (hb hby d26_33) rfl k) ?_
  refine go (T' := T1) (f' := (mkF m 37 #[.val (.ref a0), .val (.int (1 : Int32)), .val (.int p2)] [(.int (0 : Int32)), (.ref a0)])) (by intro t k; exact XS.iinc X1.here hx rfl (hb hby d26_34) rfl (l' := #[.val (.ref a0), .val (.int (1 : Int32)), .val (.int p2)]) rfl k) ?_
  refine go (T' := T1) (f' := (mkF m 38 #[.val (.ref a0), .val (.int (1 : Int32)), .val (.int p2)] [(.int p2), (.int (0 : Int32)), (.ref a0)])) (by intro t k; exact XS.iloadN X1.here hx rfl (hb hby d26_37) rfl k) ?_
  obtain ⟨T2, X2, e2, st2⟩ := getS2 X1 hx hZ hown (host := "") (Or.inl (hw _ (List.mem_of_getElem? (i := 125) rfl))) Via.refl e1 (S_hi.ext O0.2) (g := (mkF m 38 #[.val (.ref a0), .val (.int (1 : Int32)), .val (.int p2)] [(.int p2), (.int (0 : Int32)), (.ref a0)])) rfl (hb hby d26_38)
  refine go st2 ?_
  show Run _ _ _ _ _ _ _ T2 (mkF m 41 #[.val (.ref a0), .val (.int (1 : Int32)), .val (.int p2)] [(.int (0 : Int32)), (.int p2), (.int (0 : Int32)), (.ref a0)])
  refine go (T' := T2) (f' := (mkF m 42 #[.val (.ref a0), .val (.int (1 : Int32)), .val (.int p2)] [(.int ((p2 >>> ((0 : Int32) &&& 31)))), (.int (0 : Int32)), (.ref a0)])) (by intro t k; exact XS.ishr X2.here hx rfl (hb hby d26_41) rfl k) ?_
  refine go (T' := T2) (f' := (mkF m 43 #[.val (.ref a0), .val (.int (1 : Int32)), .val (.int p2)] [(.int ((((p2 >>> ((0 : Int32) &&& 31)))).toInt8.toInt32)), (.int (0 : Int32)), (.ref a0)])) (by intro t k; exact XS.i2b X2.here hx rfl (hb hby d26_42) rfl k) ?_
  obtain ⟨cl3, Ar3, hin3⟩ := Ary.st (j := (0 : Int32)) A_a0 (by decide) (by show (0 : Int32).toNatClampNeg < 4; decide)
  obtain ⟨T3, h3, X3, e3, W3, st3⟩ := stB X2 hx hZ e2 Ar3 (j := (0 : Int32)) hin3 (g := (mkF m 43 #[.val (.ref a0), .val (.int (1 : Int32)), .val (.int p2)] [(.int ((((p2 >>> ((0 : Int32) &&& 31)))).toInt8.toInt32)), (.int (0 : Int32)), (.ref a0)])) rfl rfl (hb hby d26_43)
  have K3 : Keep h0 h3 [a0] := Keep.of_wr W3
  have V3 : Ary Z h3 a0 .byte [(.int (nar .byte ((((p2 >>> ((0 : Int32) &&& 31)))).toInt8.toInt32))), (.int x1), (.int x2), (.int x3)] := Ary.set A_a0 W3 (fits_nar_byte _)
  have N3 := Fr.snoc X3 N0 g_a0
  have O3 : Old Z n0 h3 := O0.keep K3 (allS g_a0 all0)
  have Z3 : n0 ≤ h3.size := Nat.le_trans Z0 K3.1
  have KK3 : Keep h0 h3 [a0] := (Keep.refl _ _).trans K3 (allS (Or.inl (List.mem_of_getElem? (i := 0) rfl)) all0)
  refine go st3 ?_
  show Run _ _ _ _ _ _ _ T3 (mkF m 44 #[.val (.ref a0), .val (.int (1 : Int32)), .val (.int p2)] [])
  refine go (T' := T3) (f' := (mkF m 45 #[.val (.ref a0), .val (.int (1 : Int32)), .val (.int p2)] [(.ref a0)])) (by intro t k; exact XS.aloadN X3.here hx rfl (hb hby d26_44) rfl rfl k) ?_
  refine go (T' := T3) (f' := (mkF m 46 #[.val (.ref a0), .val (.int (1 : Int32)), .val (.int p2)] [(.int (1 : Int32)), (.ref a0)])) (by intro t k; exact XS.iloadN X3.here hx rfl (hb hby d26_45) rfl k) ?_
  refine go (T' := T3) (f' := (mkF m 47 #[.val (.ref a0), .val (.int (1 : Int32)), .val (.int p2)] [(.int p2), (.int (1 : Int32)), (.ref a0)])) (by intro t k; exact XS.iloadN X3.here hx rfl (hb hby d26_46) rfl k) ?_
  obtain ⟨T4, X4, e4, st4⟩ := getS2 X3 hx hZ hown (host := "") (Or.inl (hw _ (List.mem_of_getElem? (i := 126) rfl))) Via.refl e3 (S_lo.ext O3.2) (g := (mkF m 47 #[.val (.ref a0), .val (.int (1 : Int32)), .val (.int p2)] [(.int p2), (.int (1 : Int32)), (.ref a0)])) rfl (hb hby d26_47)
  refine go st4 ?_
  show Run _ _ _ _ _ _ _ T4 (mkF m 50 #[.val (.ref a0), .val (.int (1 : Int32)), .val (.int p2)] [(.int (8 : Int32)), (.int p2), (.int (1 : Int32)), (.ref a0)])
  refine go (T' := T4) (f' := (mkF m 51 #[.val (.ref a0), .val (.int (1 : Int32)), .val (.int p2)] [(.int ((p2 >>> ((8 : Int32) &&& 31)))), (.int (1 : Int32)), (.ref a0)])) (by intro t k; exact XS.ishr X4.here hx rfl (hb hby d26_50) rfl k) ?_
  refine go (T' := T4) (f' := (mkF m 52 #[.val (.ref a0), .val (.int (1 : Int32)), .val (.int p2)] [(.int ((((p2 >>> ((8 : Int32) &&& 31)))).toInt8.toInt32)), (.int (1 : Int32)), (.ref a0)])) (by intro t k; exact XS.i2b X4.here hx rfl (hb hby d26_51) rfl k) ?_
  obtain ⟨cl5, Ar5, hin5⟩ := Ary.st (j := (1 : Int32)) V3 (by decide) (by show (1 : Int32).toNatClampNeg < 4; decide)
  obtain ⟨T5, h5, X5, e5, W5, st5⟩ := stB X4 hx hZ e4 Ar5 (j := (1 : Int32)) hin5 (g := (mkF m 52 #[.val (.ref a0), .val (.int (1 : Int32)), .val (.int p2)] [(.int ((((p2 >>> ((8 : Int32) &&& 31)))).toInt8.toInt32)), (.int (1 : Int32)), (.ref a0)])) rfl rfl (hb hby d26_52)
  have K5 : Keep h3 h5 [a0] := Keep.of_wr W5
  have V5 : Ary Z h5 a0 .byte [(.int (nar .byte ((((p2 >>> ((0 : Int32) &&& 31)))).toInt8.toInt32))), (.int (nar .byte ((((p2 >>> ((8 : Int32) &&& 31)))).toInt8.toInt32))), (.int x2), (.int x3)] := Ary.set V3 W5 (fits_nar_byte _)
  have N5 := Fr.snoc X5 N3 g_a0
  have O5 : Old Z n0 h5 := O3.keep K5 (allS g_a0 all0)
  have Z5 : n0 ≤ h5.size := Nat.le_trans Z3 K5.1
  have KK5 : Keep h0 h5 [a0] := KK3.trans K5 (allS (Or.inl (List.mem_of_getElem? (i := 0) rfl)) all0)
  refine go st5 ?_
  show Run _ _ _ _ _ _ _ T5 (mkF m 53 #[.val (.ref a0), .val (.int (1 : Int32)), .val (.int p2)] [])
  refine retV X5 hx Bd.returns (hb hby d26_53) hlk (by decide) (by decide) ?_
  show Q26i0 Z a0 p2 x0 x1 x2 x3 h0 n0 _ T5.heap _
  rw [e5]
  exact ⟨rfl, N5, KK5, V5⟩
theorem ef_26i1 (m : MethodId) (x0 : Addr) (x2 : Int32) : entryFrame m #[(.ref x0), (.int (1 : Int32)), (.int x2)] 3 = mkF m 0 #[.val (.ref x0), .val (.int (1 : Int32)), .val (.int x2)] [] := by first | (simp [entryFrame, mkF, argsToLocals, Value.category]; done) | rfl
def Q26i1 (Z : State) (a0 : Addr) (p2 : Int32) (x0 x1 x2 x3 : Int32) (h0 : Heap) (n0 : Nat) (v : Option Value) (h : Heap) (L : List Loc) : Prop := v = none ∧ Fr n0 L ∧ Keep h0 h [a0] ∧ Ary Z h a0 .byte [(.int x0), (.int x1), (.int (nar .byte (((p2 >>> ((0 : Int32) &&& 31))).toInt8.toInt32))), (.int (nar .byte (((p2 >>> ((8 : Int32) &&& 31))).toInt8.toInt32)))]
set_option maxRecDepth 65536 in
set_option maxHeartbeats 40000000 in
theorem rm26i1 (l : Launch) (Z : State) (aw : Array Value) (hw : ∀ d ∈ tables_1, d.before aw Z = true) (ws : List Jvm.Cond) (a0 : Addr) (p2 : Int32) (x0 x1 x2 x3 : Int32) (h0 : Heap) (n0 : Nat) (Z0 : n0 ≤ h0.size) (O0 : Old Z n0 h0) (S_ad : Sta Z Z.heap "java/lang/StringUTF16" "$assertionsDisabled" "Z" (.int (1 : Int32))) (S_hi : Sta Z Z.heap "java/lang/StringUTF16" "HI_BYTE_SHIFT" "I" (.int (0 : Int32))) (S_lo : Sta Z Z.heap "java/lang/StringUTF16" "LO_BYTE_SHIFT" "I" (.int (8 : Int32))) (A_a0 : Ary Z h0 a0 .byte [(.int x0), (.int x1), (.int x2), (.int x3)]) (g_a0 : n0 ≤ a0) :
    MetFree l (⟨"java/lang/StringUTF16", "putChar", "([BII)V"⟩ : MethodName) (head1 (Jvm.Cond.code (⟨"java/lang/StringUTF16", "putChar", "([BII)V"⟩ : MethodName) jdk_52_method_4_code 3 none :: ws) ({ frames := 0, cells := 0, slots := 0, locals := 0 } : Room)) (fun a U => a = #[(.ref a0), (.int (1 : Int32)), (.int p2)] ∧ Z.Warmed39 U.vm ∧ U.heap = h0) (fun _ _ _ _ _ => True) (fun _ U o U' => ∃ v L, o = .returned v ∧ Q26i1 Z a0 p2 x0 x1 x2 x3 h0 n0 v U'.heap L ∧ FrameEnd U o U' L ({ frames := 0, cells := 0, slots := 0, locals := 0 } : Room).cells ({ frames := 0, cells := 0, slots := 0, locals := 0 } : Room).slots) := by
  refine MetFree.of_bodySF (plainFor_of_name pn_6) hisR ?_
  intro p e s m args below meth c s₁ Bd hml0 hP hK
  obtain ⟨rfl, hZ, hh⟩ := hP
  have hx := Bd.exec
  have hby := Bd.bytes
  have hml : c.maxLocals = 3 := hml0
  have hown : s.vm.findClass "java/lang/StringUTF16" = some m.cls := findClass_of_methodNamed Bd.named
  have hnm := (name_of_methodNamed Bd.named Bd.method).1
  have hlk : meth.locks = false := BodyLoose.notSynchronized Bd
  have X0 : Stand p l e ({ frames := 0, cells := 0, slots := 0, locals := 0 } : Room) s m #[(.ref a0), (.int (1 : Int32)), (.int p2)] below meth c s₁ [] 0 0 := Stand.of_body Bd
  have e0 : s₁.heap = h0 := by rw [← hh, Bd.state]; rfl
  have N0 := Fr.nil n0
  show Run p e s below (Q26i1 Z a0 p2 x0 x1 x2 x3 h0 n0) ({ frames := 0, cells := 0, slots := 0, locals := 0 } : Room).cells ({ frames := 0, cells := 0, slots := 0, locals := 0 } : Room).slots s₁ (entryFrame m #[(.ref a0), (.int (1 : Int32)), (.int p2)] 3)
  rw [ef_26i1]
  show Run _ _ _ _ _ _ _ s₁ (mkF m 0 #[.val (.ref a0), .val (.int (1 : Int32)), .val (.int p2)] [])
  obtain ⟨T1, X1, e1, st1⟩ := getS2 X0 hx hZ hown (host := "") (Or.inl (hw _ (List.mem_of_getElem? (i := 124) rfl))) Via.refl e0 (S_ad.ext O0.2) (g := (mkF m 0 #[.val (.ref a0), .val (.int (1 : Int32)), .val (.int p2)] [])) rfl (hb hby d26_0)
  refine go st1 ?_
  show Run _ _ _ _ _ _ _ T1 (mkF m 3 #[.val (.ref a0), .val (.int (1 : Int32)), .val (.int p2)] [(.int (1 : Int32))])
  refine go (T' := T1) (f' := (mkF m 28 #[.val (.ref a0), .val (.int (1 : Int32)), .val (.int p2)] [])) (by intro t k; exact XS.ifYes X1.here hx rfl (pc0 := 3) (pc' := 28) rfl (hb hby d26_3) rfl ((if0 _ _).trans (feq (by decide : ¬ ((1 : Int32) = (0 : Int32)))).2) (by decide) (by decide) k) ?_
  refine go (T' := T1) (f' := (mkF m 29 #[.val (.ref a0), .val (.int (1 : Int32)), .val (.int p2)] [(.int (1 : Int32))])) (by intro t k; exact XS.iloadN X1.here hx rfl (hb hby d26_28) rfl k) ?_
  refine go (T' := T1) (f' := (mkF m 30 #[.val (.ref a0), .val (.int (1 : Int32)), .val (.int p2)] [(.int (1 : Int32)), (.int (1 : Int32))])) (by intro t k; exact XS.iconst X1.here hx rfl (hb hby d26_29) k) ?_
  refine go (T' := T1) (f' := (mkF m 31 #[.val (.ref a0), .val (.int (1 : Int32)), .val (.int p2)] [(.int (2 : Int32))])) (by intro t k; exact XS.ishl X1.here hx rfl (hb hby d26_30) rfl k) ?_
  refine go (T' := T1) (f' := (mkF m 32 #[.val (.ref a0), .val (.int (2 : Int32)), .val (.int p2)] [])) (by intro t k; exact XS.istoreN X1.here hx rfl (hb hby d26_31) rfl (l' := #[.val (.ref a0), .val (.int (2 : Int32)), .val (.int p2)]) rfl k) ?_
  refine go (T' := T1) (f' := (mkF m 33 #[.val (.ref a0), .val (.int (2 : Int32)), .val (.int p2)] [(.ref a0)])) (by intro t k; exact XS.aloadN X1.here hx rfl (hb hby d26_32) rfl rfl k) ?_
  refine go (T' := T1) (f' := (mkF m 34 #[.val (.ref a0), .val (.int (2 : Int32)), .val (.int p2)] [(.int (2 : Int32)), (.ref a0)])) (by intro t k; exact XS.iloadN X1.here hx rfl (hb hby d26_33) rfl k) ?_
  refine go (T' := T1) (f' := (mkF m 37 #[.val (.ref a0), .val (.int (3 : Int32)), .val (.int p2)] [(.int (2 : Int32)), (.ref a0)])) (by intro t k; exact XS.iinc X1.here hx rfl (hb hby d26_34) rfl (l' := #[.val (.ref a0), .val (.int (3 : Int32)), .val (.int p2)]) rfl k) ?_
  refine go (T' := T1) (f' := (mkF m 38 #[.val (.ref a0), .val (.int (3 : Int32)), .val (.int p2)] [(.int p2), (.int (2 : Int32)), (.ref a0)])) (by intro t k; exact XS.iloadN X1.here hx rfl (hb hby d26_37) rfl k) ?_
  obtain ⟨T2, X2, e2, st2⟩ := getS2 X1 hx hZ hown (host := "") (Or.inl (hw _ (List.mem_of_getElem? (i := 125) rfl))) Via.refl e1 (S_hi.ext O0.2) (g := (mkF m 38 #[.val (.ref a0), .val (.int (3 : Int32)), .val (.int p2)] [(.int p2), (.int (2 : Int32)), (.ref a0)])) rfl (hb hby d26_38)
  refine go st2 ?_
  show Run _ _ _ _ _ _ _ T2 (mkF m 41 #[.val (.ref a0), .val (.int (3 : Int32)), .val (.int p2)] [(.int (0 : Int32)), (.int p2), (.int (2 : Int32)), (.ref a0)])
  refine go (T' := T2) (f' := (mkF m 42 #[.val (.ref a0), .val (.int (3 : Int32)), .val (.int p2)] [(.int ((p2 >>> ((0 : Int32) &&& 31)))), (.int (2 : Int32)), (.ref a0)])) (by intro t k; exact XS.ishr X2.here hx rfl (hb hby d26_41) rfl k) ?_
  refine go (T' := T2) (f' := (mkF m 43 #[.val (.ref a0), .val (.int (3 : Int32)), .val (.int p2)] [(.int ((((p2 >>> ((0 : Int32) &&& 31)))).toInt8.toInt32)), (.int (2 : Int32)), (.ref a0)])) (by intro t k; exact XS.i2b X2.here hx rfl (hb hby d26_42) rfl k) ?_
  obtain ⟨cl3, Ar3, hin3⟩ := Ary.st (j := (2 : Int32)) A_a0 (by decide) (by show (2 : Int32).toNatClampNeg < 4; decide)
  obtain ⟨T3, h3, X3, e3, W3, st3⟩ := stB X2 hx hZ e2 Ar3 (j := (2 : Int32)) hin3 (g := (mkF m 43 #[.val (.ref a0), .val (.int (3 : Int32)), .val (.int p2)] [(.int ((((p2 >>> ((0 : Int32) &&& 31)))).toInt8.toInt32)), (.int (2 : Int32)), (.ref a0)])) rfl rfl (hb hby d26_43)
  have K3 : Keep h0 h3 [a0] := Keep.of_wr W3
  have V3 : Ary Z h3 a0 .byte [(.int x0), (.int x1), (.int (nar .byte ((((p2 >>> ((0 : Int32) &&& 31)))).toInt8.toInt32))), (.int x3)] := Ary.set A_a0 W3 (fits_nar_byte _)
  have N3 := Fr.snoc X3 N0 g_a0
  have O3 : Old Z n0 h3 := O0.keep K3 (allS g_a0 all0)
  have Z3 : n0 ≤ h3.size := Nat.le_trans Z0 K3.1
  have KK3 : Keep h0 h3 [a0] := (Keep.refl _ _).trans K3 (allS (Or.inl (List.mem_of_getElem? (i := 0) rfl)) all0)
  refine go st3 ?_
  show Run _ _ _ _ _ _ _ T3 (mkF m 44 #[.val (.ref a0), .val (.int (3 : Int32)), .val (.int p2)] [])
  refine go (T' := T3) (f' := (mkF m 45 #[.val (.ref a0), .val (.int (3 : Int32)), .val (.int p2)] [(.ref a0)])) (by intro t k; exact XS.aloadN X3.here hx rfl (hb hby d26_44) rfl rfl k) ?_
  refine go (T' := T3) (f' := (mkF m 46 #[.val (.ref a0), .val (.int (3 : Int32)), .val (.int p2)] [(.int (3 : Int32)), (.ref a0)])) (by intro t k; exact XS.iloadN X3.here hx rfl (hb hby d26_45) rfl k) ?_
  refine go (T' := T3) (f' := (mkF m 47 #[.val (.ref a0), .val (.int (3 : Int32)), .val (.int p2)] [(.int p2), (.int (3 : Int32)), (.ref a0)])) (by intro t k; exact XS.iloadN X3.here hx rfl (hb hby d26_46) rfl k) ?_
  obtain ⟨T4, X4, e4, st4⟩ := getS2 X3 hx hZ hown (host := "") (Or.inl (hw _ (List.mem_of_getElem? (i := 126) rfl))) Via.refl e3 (S_lo.ext O3.2) (g := (mkF m 47 #[.val (.ref a0), .val (.int (3 : Int32)), .val (.int p2)] [(.int p2), (.int (3 : Int32)), (.ref a0)])) rfl (hb hby d26_47)
  refine go st4 ?_
  show Run _ _ _ _ _ _ _ T4 (mkF m 50 #[.val (.ref a0), .val (.int (3 : Int32)), .val (.int p2)] [(.int (8 : Int32)), (.int p2), (.int (3 : Int32)), (.ref a0)])
  refine go (T' := T4) (f' := (mkF m 51 #[.val (.ref a0), .val (.int (3 : Int32)), .val (.int p2)] [(.int ((p2 >>> ((8 : Int32) &&& 31)))), (.int (3 : Int32)), (.ref a0)])) (by intro t k; exact XS.ishr X4.here hx rfl (hb hby d26_50) rfl k) ?_
  refine go (T' := T4) (f' := (mkF m 52 #[.val (.ref a0), .val (.int (3 : Int32)), .val (.int p2)] [(.int ((((p2 >>> ((8 : Int32) &&& 31)))).toInt8.toInt32)), (.int (3 : Int32)), (.ref a0)])) (by intro t k; exact XS.i2b X4.here hx rfl (hb hby d26_51) rfl k) ?_
  obtain ⟨cl5, Ar5, hin5⟩ := Ary.st (j := (3 : Int32)) V3 (by decide) (by show (3 : Int32).toNatClampNeg < 4; decide)
  obtain ⟨T5, h5, X5, e5, W5, st5⟩ := stB X4 hx hZ e4 Ar5 (j := (3 : Int32)) hin5 (g := (mkF m 52 #[.val (.ref a0), .val (.int (3 : Int32)), .val (.int p2)] [(.int ((((p2 >>> ((8 : Int32) &&& 31)))).toInt8.toInt32)), (.int (3 : Int32)), (.ref a0)])) rfl rfl (hb hby d26_52)
  have K5 : Keep h3 h5 [a0] := Keep.of_wr W5
  have V5 : Ary Z h5 a0 .byte [(.int x0), (.int x1), (.int (nar .byte ((((p2 >>> ((0 : Int32) &&& 31)))).toInt8.toInt32))), (.int (nar .byte ((((p2 >>> ((8 : Int32) &&& 31)))).toInt8.toInt32)))] := Ary.set V3 W5 (fits_nar_byte _)
  have N5 := Fr.snoc X5 N3 g_a0
  have O5 : Old Z n0 h5 := O3.keep K5 (allS g_a0 all0)
  have Z5 : n0 ≤ h5.size := Nat.le_trans Z3 K5.1
  have KK5 : Keep h0 h5 [a0] := KK3.trans K5 (allS (Or.inl (List.mem_of_getElem? (i := 0) rfl)) all0)
  refine go st5 ?_
  show Run _ _ _ _ _ _ _ T5 (mkF m 53 #[.val (.ref a0), .val (.int (3 : Int32)), .val (.int p2)] [])
  refine retV X5 hx Bd.returns (hb hby d26_53) hlk (by decide) (by decide) ?_
  show Q26i1 Z a0 p2 x0 x1 x2 x3 h0 n0 _ T5.heap _
  rw [e5]
  exact ⟨rfl, N5, KK5, V5⟩
theorem d25_0 : decode jdk_52_method_3_code 0 = .ok (.iload_n 0, 1) := by decide +kernel
theorem d25_1 : decode jdk_52_method_3_code 1 = .ok (.ifCond .ge 11, 3) := by decide +kernel
theorem d25_12 : decode jdk_52_method_3_code 12 = .ok (.iload_n 0, 1) := by decide +kernel
theorem d25_13 : decode jdk_52_method_3_code 13 = .ok (.ldc 20, 2) := by decide +kernel
theorem d25_15 : decode jdk_52_method_3_code 15 = .ok (.if_icmp .lt 40, 3) := by decide +kernel
theorem d25_55 : decode jdk_52_method_3_code 55 = .ok (.iload_n 0, 1) := by decide +kernel
theorem d25_56 : decode jdk_52_method_3_code 56 = .ok (.iconst 1, 1) := by decide +kernel
theorem d25_57 : decode jdk_52_method_3_code 57 = .ok (.ishl, 1) := by decide +kernel
theorem d25_58 : decode jdk_52_method_3_code 58 = .ok (.ireturn, 1) := by decide +kernel
theorem ef_25 (m : MethodId)  : entryFrame m #[(.int (2 : Int32))] 1 = mkF m 0 #[.val (.int (2 : Int32))] [] := by first | (simp [entryFrame, mkF, argsToLocals, Value.category]; done) | rfl
def Q25 (Z : State)  (h0 : Heap) (n0 : Nat) (v : Option Value) (h : Heap) (L : List Loc) : Prop := v = some (.int (4 : Int32)) ∧ Fr n0 L ∧ h = h0
set_option maxRecDepth 65536 in
set_option maxHeartbeats 40000000 in
theorem rm25 (l : Launch) (Z : State) (aw : Array Value) (hw : ∀ d ∈ tables_1, d.before aw Z = true) (ws : List Jvm.Cond)  (h0 : Heap) (n0 : Nat) (Z0 : n0 ≤ h0.size) :
    MetFree l (⟨"java/lang/StringUTF16", "newBytesLength", "(I)I"⟩ : MethodName) (head1 (Jvm.Cond.code (⟨"java/lang/StringUTF16", "newBytesLength", "(I)I"⟩ : MethodName) jdk_52_method_3_code 1 (some .int) :: ws) ({ frames := 0, cells := 0, slots := 0, locals := 0 } : Room)) (fun a U => a = #[(.int (2 : Int32))] ∧ Z.Warmed39 U.vm ∧ U.heap = h0) (fun _ _ _ _ _ => True) (fun _ U o U' => ∃ v L, o = .returned v ∧ Q25 Z  h0 n0 v U'.heap L ∧ FrameEnd U o U' L ({ frames := 0, cells := 0, slots := 0, locals := 0 } : Room).cells ({ frames := 0, cells := 0, slots := 0, locals := 0 } : Room).slots) := by
  refine MetFree.of_bodySF (plainFor_of_name pn_6) hisR ?_
  intro p e s m args below meth c s₁ Bd hml0 hP hK
  obtain ⟨rfl, hZ, hh⟩ := hP
  have hx := Bd.exec
  have hby := Bd.bytes
  have hml : c.maxLocals = 1 := hml0
  have hown : s.vm.findClass "java/lang/StringUTF16" = some m.cls := findClass_of_methodNamed Bd.named
  have hnm := (name_of_methodNamed Bd.named Bd.method).1
  have hlk : meth.locks = false := BodyLoose.notSynchronized Bd
  have X0 : Stand p l e ({ frames := 0, cells := 0, slots := 0, locals := 0 } : Room) s m #[(.int (2 : Int32))] below meth c s₁ [] 0 0 := Stand.of_body Bd
  have e0 : s₁.heap = h0 := by rw [← hh, Bd.state]; rfl
  have N0 := Fr.nil n0
  show Run p e s below (Q25 Z  h0 n0) ({ frames := 0, cells := 0, slots := 0, locals := 0 } : Room).cells ({ frames := 0, cells := 0, slots := 0, locals := 0 } : Room).slots s₁ (entryFrame m #[(.int (2 : Int32))] 1)
  rw [ef_25]
  show Run _ _ _ _ _ _ _ s₁ (mkF m 0 #[.val (.int (2 : Int32))] [])
  refine go (T' := s₁) (f' := (mkF m 1 #[.val (.int (2 : Int32))] [(.int (2 : Int32))])) (by intro t k; exact XS.iloadN X0.here hx rfl (hb hby d25_0) rfl k) ?_
  refine go (T' := s₁) (f' := (mkF m 12 #[.val (.int (2 : Int32))] [])) (by intro t k; exact XS.ifYes X0.here hx rfl (pc0 := 1) (pc' := 12) rfl (hb hby d25_1) rfl ((if0 _ _).trans (flt (by decide : ¬ ((2 : Int32) < (0 : Int32)))).2.1) (by decide) (by decide) k) ?_
  refine go (T' := s₁) (f' := (mkF m 13 #[.val (.int (2 : Int32))] [(.int (2 : Int32))])) (by intro t k; exact XS.iloadN X0.here hx rfl (hb hby d25_12) rfl k) ?_
  refine go (T' := s₁) (f' := (mkF m 15 #[.val (.int (2 : Int32))] [(.int (1073741823 : Int32)), (.int (2 : Int32))])) (by intro t k; exact X0.ldcInt hx hown (mvT hZ (hw _ (List.mem_of_getElem? (i := 120) rfl))) (g := (mkF m 13 #[.val (.int (2 : Int32))] [(.int (2 : Int32))])) rfl (hb hby d25_13) _ k) ?_
  refine go (T' := s₁) (f' := (mkF m 55 #[.val (.int (2 : Int32))] [])) (by intro t k; exact XS.icmpYes X0.here hx rfl (pc0 := 15) (pc' := 55) rfl (hb hby d25_15) rfl (tlt (by decide : (2 : Int32) < (1073741823 : Int32))).1 (by decide) (by decide) k) ?_
  refine go (T' := s₁) (f' := (mkF m 56 #[.val (.int (2 : Int32))] [(.int (2 : Int32))])) (by intro t k; exact XS.iloadN X0.here hx rfl (hb hby d25_55) rfl k) ?_
  refine go (T' := s₁) (f' := (mkF m 57 #[.val (.int (2 : Int32))] [(.int (1 : Int32)), (.int (2 : Int32))])) (by intro t k; exact XS.iconst X0.here hx rfl (hb hby d25_56) k) ?_
  refine go (T' := s₁) (f' := (mkF m 58 #[.val (.int (2 : Int32))] [(.int (4 : Int32))])) (by intro t k; exact XS.ishl X0.here hx rfl (hb hby d25_57) rfl k) ?_
  refine retW X0 hx (t := .int) Bd.returns rfl (Or.inl ⟨rfl, Or.inl rfl, _, rfl⟩) (hb hby d25_58) hlk (by decide) (by decide) ?_
  show Q25 Z  h0 n0 _ s₁.heap _
  rw [e0]
  have hv : (some (.int (4 : Int32)) : Option Value) = some (.int (4 : Int32)) := rfl
  exact ⟨hv, N0, rfl⟩
theorem d24_0 : decode jdk_52_method_2_code 0 = .ok (.iload_n 0, 1) := by decide +kernel
theorem d24_1 : decode jdk_52_method_2_code 1 = .ok (.invokestatic 11, 3) := by decide +kernel
theorem d24_4 : decode jdk_52_method_2_code 4 = .ok (.newarray .byte, 2) := by decide +kernel
theorem d24_6 : decode jdk_52_method_2_code 6 = .ok (.areturn, 1) := by decide +kernel
theorem pd_28I29I : parseMethodDescriptor "(I)I" = some ⟨[.int], some .int⟩ := by decide +kernel
theorem ef_24 (m : MethodId)  : entryFrame m #[(.int (2 : Int32))] 1 = mkF m 0 #[.val (.int (2 : Int32))] [] := by first | (simp [entryFrame, mkF, argsToLocals, Value.category]; done) | rfl
def Q24 (Z : State)  (h0 : Heap) (n0 : Nat) (v : Option Value) (h : Heap) (L : List Loc) : Prop := ∃ r : Addr, v = some (.ref r) ∧ h0.size ≤ r ∧ Fr n0 L ∧ Keep h0 h [] ∧ Ary Z h r .byte [(.int (0 : Int32)), (.int (0 : Int32)), (.int (0 : Int32)), (.int (0 : Int32))]
set_option maxRecDepth 65536 in
set_option maxHeartbeats 40000000 in
theorem rm24 (l : Launch) (Z : State) (aw : Array Value) (hw : ∀ d ∈ tables_1, d.before aw Z = true) (ws : List Jvm.Cond)  (h0 : Heap) (n0 : Nat) (Z0 : n0 ≤ h0.size) :
    MetFree l (⟨"java/lang/StringUTF16", "newBytesFor", "(I)[B"⟩ : MethodName) (head1 (Jvm.Cond.code (⟨"java/lang/StringUTF16", "newBytesFor", "(I)[B"⟩ : MethodName) jdk_52_method_2_code 1 (some (.array .byte)) :: ws) ({ frames := 1, cells := 1, slots := 4, locals := 12 } : Room)) (fun a U => a = #[(.int (2 : Int32))] ∧ Z.Warmed39 U.vm ∧ U.heap = h0) (fun _ _ _ _ _ => True) (fun _ U o U' => ∃ v L, o = .returned v ∧ Q24 Z  h0 n0 v U'.heap L ∧ FrameEnd U o U' L ({ frames := 1, cells := 1, slots := 4, locals := 12 } : Room).cells ({ frames := 1, cells := 1, slots := 4, locals := 12 } : Room).slots) := by
  refine MetFree.of_bodySF (plainFor_of_name pn_6) hisR ?_
  intro p e s m args below meth c s₁ Bd hml0 hP hK
  obtain ⟨rfl, hZ, hh⟩ := hP
  have hx := Bd.exec
  have hby := Bd.bytes
  have hml : c.maxLocals = 1 := hml0
  have hown : s.vm.findClass "java/lang/StringUTF16" = some m.cls := findClass_of_methodNamed Bd.named
  have hnm := (name_of_methodNamed Bd.named Bd.method).1
  have hlk : meth.locks = false := BodyLoose.notSynchronized Bd
  have X0 : Stand p l e ({ frames := 1, cells := 1, slots := 4, locals := 12 } : Room) s m #[(.int (2 : Int32))] below meth c s₁ [] 0 0 := Stand.of_body Bd
  have e0 : s₁.heap = h0 := by rw [← hh, Bd.state]; rfl
  have N0 := Fr.nil n0
  show Run p e s below (Q24 Z  h0 n0) ({ frames := 1, cells := 1, slots := 4, locals := 12 } : Room).cells ({ frames := 1, cells := 1, slots := 4, locals := 12 } : Room).slots s₁ (entryFrame m #[(.int (2 : Int32))] 1)
  rw [ef_24]
  show Run _ _ _ _ _ _ _ s₁ (mkF m 0 #[.val (.int (2 : Int32))] [])
  refine go (T' := s₁) (f' := (mkF m 1 #[.val (.int (2 : Int32))] [(.int (2 : Int32))])) (by intro t k; exact XS.iloadN X0.here hx rfl (hb hby d24_0) rfl k) ?_
  obtain ⟨_, _, ⟨T1, Lz1, kz1, nz1⟩, -, X1, ⟨Lc1, hQ1, lz1, yz1, zz1⟩, st1⟩ := Jvm.LawKit.callS X0 hx (y := (⟨"java/lang/StringUTF16", "newBytesLength", "(I)I"⟩ : MethodName)) hown (mvT hZ (hw _ (List.mem_of_getElem? (i := 117) rfl))) (mvT hZ (hw _ (List.mem_of_getElem? (i := 118) rfl))) (mvT hZ (hw _ (List.mem_of_getElem? (i := 24) rfl))) (mvT hZ (hw _ (List.mem_of_getElem? (i := 119) rfl))) (by decide) (backOf (W := 0) (rm25 l Z aw hw []   h0 n0 Z0 ) hZ (hw _ (List.mem_of_getElem? (i := 119) rfl)) (hw _ (List.mem_of_getElem? (i := 24) rfl)) (by decide) (by decide)) (g := (mkF m 1 #[.val (.int (2 : Int32))] [(.int (2 : Int32))])) rfl (by rw [hml]; rfl) (argsL := [(.int (2 : Int32))]) (rest := []) (lenOf pd_28I29I rfl) rfl (by show 2 * 0 + _ ≤ _; exact Nat.le_of_eq rfl) (hb hby d24_1) (fun _ _ => ⟨rfl, e0, (by decide : 0 + 0 ≤ _), (by decide : 0 + 0 ≤ _)⟩)
  dsimp only [Pt.U, Pt.locs, Pt.cells, Pt.slots] at X1 lz1 yz1 zz1 st1 hQ1
  subst lz1 yz1 zz1
  obtain ⟨rfl, N1q, e1⟩ := hQ1
  have N1 := Fr.app N0 N1q
  refine go st1 ?_
  show Run _ _ _ _ _ _ _ T1 (mkF m 4 #[.val (.int (2 : Int32))] [(.int (4 : Int32))])
  obtain ⟨T2, h2, kA2, X2, e2, E2, A2, EX2, st2⟩ := newPE X1 hx hZ (hw _ (List.mem_of_getElem? (i := 26) rfl)) e1 (g := (mkF m 4 #[.val (.int (2 : Int32))] [(.int (4 : Int32))])) rfl (hb hby d24_4) rfl (by decide) (cap := 4) (by decide) (by decide) (by decide) (by decide) (ad := "[B") (by decide)
  obtain ⟨b2, g2⟩ : ∃ z, z = h0.size := ⟨_, rfl⟩
  rw [← g2] at A2 EX2 st2
  have ge_b2 : n0 ≤ b2 := Nat.le_trans Z0 (Nat.le_of_eq g2.symm)
  have sz_b2 : h0.size ≤ b2 := Nat.le_trans (Keep.refl h0 []).1 (Nat.le_of_eq g2.symm)
  have K2 : Keep h0 h2 [] := (Keep.refl _ _).ext E2
  have Z2 : n0 ≤ h2.size := Nat.le_trans Z0 K2.1
  have KK2 : Keep h0 h2 [] := (Keep.refl _ _).trans K2 all0
  have V2 : Ary Z h2 b2 .byte [(.int (0 : Int32)), (.int (0 : Int32)), (.int (0 : Int32)), (.int (0 : Int32))] := Ary.new A2
  refine go st2 ?_
  show Run _ _ _ _ _ _ _ T2 (mkF m 6 #[.val (.int (2 : Int32))] [(.ref b2)])
  refine retW X2 hx (t := (.array .byte)) Bd.returns rfl (Or.inr (Or.inr (Or.inr (Or.inr ⟨rfl, rfl, rfl⟩)))) (hb hby d24_6) hlk (by decide) (by decide) ?_
  show Q24 Z  h0 n0 _ T2.heap _
  rw [e2]
  have hv : h0.size ≤ b2 := by
    exact sz_b2
  exact ⟨_, rfl, hv, N1, KK2, V2⟩
theorem d23_0 : decode jdk_52_method_14_code 0 = .ok (.iload_n 2, 1) := by decide +kernel
theorem d23_1 : decode jdk_52_method_14_code 1 = .ok (.invokestatic 107, 3) := by decide +kernel
theorem d23_4 : decode jdk_52_method_14_code 4 = .ok (.astore_n 3, 1) := by decide +kernel
theorem d23_5 : decode jdk_52_method_14_code 5 = .ok (.iconst 0, 1) := by decide +kernel
theorem d23_6 : decode jdk_52_method_14_code 6 = .ok (.istore 4, 2) := by decide +kernel
theorem d23_8 : decode jdk_52_method_14_code 8 = .ok (.iload 4, 2) := by decide +kernel
theorem d23_10 : decode jdk_52_method_14_code 10 = .ok (.iload_n 2, 1) := by decide +kernel
theorem d23_11 : decode jdk_52_method_14_code 11 = .ok (.if_icmp .ge 21, 3) := by decide +kernel
theorem d23_14 : decode jdk_52_method_14_code 14 = .ok (.aload_n 3, 1) := by decide +kernel
theorem d23_15 : decode jdk_52_method_14_code 15 = .ok (.iload 4, 2) := by decide +kernel
theorem d23_17 : decode jdk_52_method_14_code 17 = .ok (.aload_n 0, 1) := by decide +kernel
theorem d23_18 : decode jdk_52_method_14_code 18 = .ok (.iload_n 1, 1) := by decide +kernel
theorem d23_19 : decode jdk_52_method_14_code 19 = .ok (.caload, 1) := by decide +kernel
theorem d23_20 : decode jdk_52_method_14_code 20 = .ok (.invokestatic 111, 3) := by decide +kernel
theorem d23_23 : decode jdk_52_method_14_code 23 = .ok (.iinc 1 1, 3) := by decide +kernel
theorem d23_26 : decode jdk_52_method_14_code 26 = .ok (.iinc 4 1, 3) := by decide +kernel
theorem d23_29 : decode jdk_52_method_14_code 29 = .ok (.goto (-21), 3) := by decide +kernel
theorem d23_32 : decode jdk_52_method_14_code 32 = .ok (.aload_n 3, 1) := by decide +kernel
theorem d23_33 : decode jdk_52_method_14_code 33 = .ok (.areturn, 1) := by decide +kernel
theorem pd_28I295bB : parseMethodDescriptor "(I)[B" = some ⟨[.int], some (.array .byte)⟩ := by decide +kernel
theorem pd_285bBII29V : parseMethodDescriptor "([BII)V" = some ⟨[(.array .byte), .int, .int], none⟩ := by decide +kernel
theorem ef_23 (m : MethodId) (x0 : Addr) : entryFrame m #[(.ref x0), (.int (0 : Int32)), (.int (2 : Int32))] 5 = mkF m 0 #[.val (.ref x0), .val (.int (0 : Int32)), .val (.int (2 : Int32)), .unset, .unset] [] := by first | (simp [entryFrame, mkF, argsToLocals, Value.category]; done) | rfl
def Q23 (Z : State) (a0 : Addr) (c0 c1 : Int32) (h0 : Heap) (n0 : Nat) (v : Option Value) (h : Heap) (L : List Loc) : Prop := ∃ r : Addr, v = some (.ref r) ∧ h0.size ≤ r ∧ Fr n0 L ∧ Keep h0 h [] ∧ Ary Z h r .byte [(.int (nar .byte (((c0 >>> ((0 : Int32) &&& 31))).toInt8.toInt32))), (.int (nar .byte (((c0 >>> ((8 : Int32) &&& 31))).toInt8.toInt32))), (.int (nar .byte (((c1 >>> ((0 : Int32) &&& 31))).toInt8.toInt32))), (.int (nar .byte (((c1 >>> ((8 : Int32) &&& 31))).toInt8.toInt32)))]
set_option maxRecDepth 65536 in
set_option maxHeartbeats 40000000 in
theorem rm23 (l : Launch) (Z : State) (aw : Array Value) (hw : ∀ d ∈ tables_1, d.before aw Z = true) (ws : List Jvm.Cond) (a0 : Addr) (c0 c1 : Int32) (h0 : Heap) (n0 : Nat) (Z0 : n0 ≤ h0.size) (O0 : Old Z n0 h0) (S_ad : Sta Z Z.heap "java/lang/StringUTF16" "$assertionsDisabled" "Z" (.int (1 : Int32))) (S_hi : Sta Z Z.heap "java/lang/StringUTF16" "HI_BYTE_SHIFT" "I" (.int (0 : Int32))) (S_lo : Sta Z Z.heap "java/lang/StringUTF16" "LO_BYTE_SHIFT" "I" (.int (8 : Int32))) (A_a0 : Ary Z h0 a0 .char [(.int c0), (.int c1)]) :
    MetFree l (⟨"java/lang/StringUTF16", "toBytes", "([CII)[B"⟩ : MethodName) (head1 (Jvm.Cond.code (⟨"java/lang/StringUTF16", "toBytes", "([CII)[B"⟩ : MethodName) jdk_52_method_14_code 5 (some (.array .byte)) :: ws) ({ frames := 2, cells := 1, slots := 4, locals := 24 } : Room)) (fun a U => a = #[(.ref a0), (.int (0 : Int32)), (.int (2 : Int32))] ∧ Z.Warmed39 U.vm ∧ U.heap = h0) (fun _ _ _ _ _ => True) (fun _ U o U' => ∃ v L, o = .returned v ∧ Q23 Z a0 c0 c1 h0 n0 v U'.heap L ∧ FrameEnd U o U' L ({ frames := 2, cells := 1, slots := 4, locals := 24 } : Room).cells ({ frames := 2, cells := 1, slots := 4, locals := 24 } : Room).slots) := by
  refine MetFree.of_bodySF (plainFor_of_name pn_6) hisR ?_
  intro p e s m args below meth c s₁ Bd hml0 hP hK
  obtain ⟨rfl, hZ, hh⟩ := hP
  have hx := Bd.exec
  have hby := Bd.bytes
  have hml : c.maxLocals = 5 := hml0
  have hown : s.vm.findClass "java/lang/StringUTF16" = some m.cls := findClass_of_methodNamed Bd.named
  have hnm := (name_of_methodNamed Bd.named Bd.method).1
  have hlk : meth.locks = false := BodyLoose.notSynchronized Bd
  have X0 : Stand p l e ({ frames := 2, cells := 1, slots := 4, locals := 24 } : Room) s m #[(.ref a0), (.int (0 : Int32)), (.int (2 : Int32))] below meth c s₁ [] 0 0 := Stand.of_body Bd
  have e0 : s₁.heap = h0 := by rw [← hh, Bd.state]; rfl
  have N0 := Fr.nil n0
  show Run p e s below (Q23 Z a0 c0 c1 h0 n0) ({ frames := 2, cells := 1, slots := 4, locals := 24 } : Room).cells ({ frames := 2, cells := 1, slots := 4, locals := 24 } : Room).slots s₁ (entryFrame m #[(.ref a0), (.int (0 : Int32)), (.int (2 : Int32))] 5)
  rw [ef_23]
  show Run _ _ _ _ _ _ _ s₁ (mkF m 0 #[.val (.ref a0), .val (.int (0 : Int32)), .val (.int (2 : Int32)), .unset, .unset] [])
  refine go (T' := s₁) (f' := (mkF m 1 #[.val (.ref a0), .val (.int (0 : Int32)), .val (.int (2 : Int32)), .unset, .unset] [(.int (2 : Int32))])) (by intro t k; exact XS.iloadN X0.here hx rfl (hb hby d23_0) rfl k) ?_
  obtain ⟨_, _, ⟨T1, Lz1, kz1, nz1⟩, -, X1, ⟨Lc1, hQ1, lz1, yz1, zz1⟩, st1⟩ := Jvm.LawKit.callS X0 hx (y := (⟨"java/lang/StringUTF16", "newBytesFor", "(I)[B"⟩ : MethodName)) hown (mvT hZ (hw _ (List.mem_of_getElem? (i := 114) rfl))) (mvT hZ (hw _ (List.mem_of_getElem? (i := 115) rfl))) (mvT hZ (hw _ (List.mem_of_getElem? (i := 24) rfl))) (mvT hZ (hw _ (List.mem_of_getElem? (i := 116) rfl))) (by decide) (backOf (W := 0) (rm24 l Z aw hw []   h0 n0 Z0 ) hZ (hw _ (List.mem_of_getElem? (i := 116) rfl)) (hw _ (List.mem_of_getElem? (i := 24) rfl)) (by decide) (by decide)) (g := (mkF m 1 #[.val (.ref a0), .val (.int (0 : Int32)), .val (.int (2 : Int32)), .unset, .unset] [(.int (2 : Int32))])) rfl (by rw [hml]; rfl) (argsL := [(.int (2 : Int32))]) (rest := []) (lenOf pd_28I295bB rfl) rfl (by show 2 * 0 + _ ≤ _; exact Nat.le_of_eq rfl) (hb hby d23_1) (fun _ _ => ⟨rfl, e0, (by decide : 0 + 1 ≤ _), (by decide : 0 + 4 ≤ _)⟩)
  dsimp only [Pt.U, Pt.locs, Pt.cells, Pt.slots] at X1 lz1 yz1 zz1 st1 hQ1
  subst lz1 yz1 zz1
  obtain ⟨r1, rfl, sz1, N1q, K1, Aq1⟩ := hQ1
  have ne_a0_r1 : a0 ≠ r1 := Nat.ne_of_lt (Nat.lt_of_lt_of_le A_a0.lt sz1)
  have ge_r1 : n0 ≤ r1 := Nat.le_trans Z0 sz1
  have sz_r1 : h0.size ≤ r1 := Nat.le_trans (Keep.refl h0 []).1 sz1
  have A1_a0 := Ary.keep A_a0 K1 nin0
  have O1 : Old Z n0 T1.heap := O0.keep K1 all0
  have Z1 : n0 ≤ T1.heap.size := Nat.le_trans Z0 K1.1
  have KK1 : Keep h0 T1.heap [] := (Keep.refl _ _).trans K1 all0
  have N1 := Fr.app N0 N1q
  refine go st1 ?_
  show Run _ _ _ _ _ _ _ T1 (mkF m 4 #[.val (.ref a0), .val (.int (0 : Int32)), .val (.int (2 : Int32)), .unset, .unset] [(.ref r1)])
  refine go (T' := T1) (f' := (mkF m 5 #[.val (.ref a0), .val (.int (0 : Int32)), .val (.int (2 : Int32)), .val (.ref r1), .unset] [])) (by intro t k; exact XS.astoreN X1.here hx rfl (hb hby d23_4) rfl rfl (l' := #[.val (.ref a0), .val (.int (0 : Int32)), .val (.int (2 : Int32)), .val (.ref r1), .unset]) rfl k) ?_
  refine go (T' := T1) (f' := (mkF m 6 #[.val (.ref a0), .val (.int (0 : Int32)), .val (.int (2 : Int32)), .val (.ref r1), .unset] [(.int (0 : Int32))])) (by intro t k; exact XS.iconst X1.here hx rfl (hb hby d23_5) k) ?_
  refine go (T' := T1) (f' := (mkF m 8 #[.val (.ref a0), .val (.int (0 : Int32)), .val (.int (2 : Int32)), .val (.ref r1), .val (.int (0 : Int32))] [])) (by intro t k; exact XS.istore X1.here hx rfl (hb hby d23_6) rfl (l' := #[.val (.ref a0), .val (.int (0 : Int32)), .val (.int (2 : Int32)), .val (.ref r1), .val (.int (0 : Int32))]) rfl k) ?_
  refine go (T' := T1) (f' := (mkF m 10 #[.val (.ref a0), .val (.int (0 : Int32)), .val (.int (2 : Int32)), .val (.ref r1), .val (.int (0 : Int32))] [(.int (0 : Int32))])) (by intro t k; exact XS.iload X1.here hx rfl (hb hby d23_8) rfl k) ?_
  refine go (T' := T1) (f' := (mkF m 11 #[.val (.ref a0), .val (.int (0 : Int32)), .val (.int (2 : Int32)), .val (.ref r1), .val (.int (0 : Int32))] [(.int (2 : Int32)), (.int (0 : Int32))])) (by intro t k; exact XS.iloadN X1.here hx rfl (hb hby d23_10) rfl k) ?_
  refine go (T' := T1) (f' := (mkF m 14 #[.val (.ref a0), .val (.int (0 : Int32)), .val (.int (2 : Int32)), .val (.ref r1), .val (.int (0 : Int32))] [])) (by intro t k; exact XS.icmpNo X1.here hx rfl (hb hby d23_11) rfl (tlt (by decide : (0 : Int32) < (2 : Int32))).2.1 k) ?_
  refine go (T' := T1) (f' := (mkF m 15 #[.val (.ref a0), .val (.int (0 : Int32)), .val (.int (2 : Int32)), .val (.ref r1), .val (.int (0 : Int32))] [(.ref r1)])) (by intro t k; exact XS.aloadN X1.here hx rfl (hb hby d23_14) rfl rfl k) ?_
  refine go (T' := T1) (f' := (mkF m 17 #[.val (.ref a0), .val (.int (0 : Int32)), .val (.int (2 : Int32)), .val (.ref r1), .val (.int (0 : Int32))] [(.int (0 : Int32)), (.ref r1)])) (by intro t k; exact XS.iload X1.here hx rfl (hb hby d23_15) rfl k) ?_
  refine go (T' := T1) (f' := (mkF m 18 #[.val (.ref a0), .val (.int (0 : Int32)), .val (.int (2 : Int32)), .val (.ref r1), .val (.int (0 : Int32))] [(.ref a0), (.int (0 : Int32)), (.ref r1)])) (by intro t k; exact XS.aloadN X1.here hx rfl (hb hby d23_17) rfl rfl k) ?_
  refine go (T' := T1) (f' := (mkF m 19 #[.val (.ref a0), .val (.int (0 : Int32)), .val (.int (2 : Int32)), .val (.ref r1), .val (.int (0 : Int32))] [(.int (0 : Int32)), (.ref a0), (.int (0 : Int32)), (.ref r1)])) (by intro t k; exact XS.iloadN X1.here hx rfl (hb hby d23_18) rfl k) ?_
  refine go (T' := T1) (f' := (mkF m 20 #[.val (.ref a0), .val (.int (0 : Int32)), .val (.int (2 : Int32)), .val (.ref r1), .val (.int (0 : Int32))] [(.int c0), (.int (0 : Int32)), (.ref r1)])) (by intro t k; exact ldC X1 hx hZ rfl A1_a0 (j := (0 : Int32)) (v := (.int c0)) (by decide) rfl (g := (mkF m 19 #[.val (.ref a0), .val (.int (0 : Int32)), .val (.int (2 : Int32)), .val (.ref r1), .val (.int (0 : Int32))] [(.int (0 : Int32)), (.ref a0), (.int (0 : Int32)), (.ref r1)])) rfl rfl (hb hby d23_19) _ k) ?_
  obtain ⟨_, _, ⟨T2, Lz2, kz2, nz2⟩, -, X2, ⟨Lc2, hQ2, lz2, yz2, zz2⟩, st2⟩ := Jvm.LawKit.callS X1 hx (y := (⟨"java/lang/StringUTF16", "putChar", "([BII)V"⟩ : MethodName)) hown (mvT hZ (hw _ (List.mem_of_getElem? (i := 121) rfl))) (mvT hZ (hw _ (List.mem_of_getElem? (i := 122) rfl))) (mvT hZ (hw _ (List.mem_of_getElem? (i := 24) rfl))) (mvT hZ (hw _ (List.mem_of_getElem? (i := 123) rfl))) (by decide) (backOf (W := 0) (rm26i0 l Z aw hw [] r1 c0 (0 : Int32) (0 : Int32) (0 : Int32) (0 : Int32) T1.heap n0 Z1 O1 S_ad S_hi S_lo Aq1 ge_r1) hZ (hw _ (List.mem_of_getElem? (i := 123) rfl)) (hw _ (List.mem_of_getElem? (i := 24) rfl)) (by decide) (by decide)) (g := (mkF m 20 #[.val (.ref a0), .val (.int (0 : Int32)), .val (.int (2 : Int32)), .val (.ref r1), .val (.int (0 : Int32))] [(.int c0), (.int (0 : Int32)), (.ref r1)])) rfl (by rw [hml]; rfl) (argsL := [(.ref r1), (.int (0 : Int32)), (.int c0)]) (rest := []) (lenOf pd_285bBII29V rfl) rfl (by show 2 * 0 + _ ≤ _; exact Nat.le_of_eq rfl) (hb hby d23_20) (fun _ _ => ⟨rfl, rfl, (by decide : 1 + 0 ≤ _), (by decide : 4 + 0 ≤ _)⟩)
  dsimp only [Pt.U, Pt.locs, Pt.cells, Pt.slots] at X2 lz2 yz2 zz2 st2 hQ2
  subst lz2 yz2 zz2
  obtain ⟨rfl, N2q, K2, Aq2⟩ := hQ2
  have A2_a0 := Ary.keep A1_a0 K2 (ninS ne_a0_r1 nin0)
  have O2 : Old Z n0 T2.heap := O1.keep K2 (allS ge_r1 all0)
  have Z2 : n0 ≤ T2.heap.size := Nat.le_trans Z1 K2.1
  have KK2 : Keep h0 T2.heap [] := KK1.trans K2 (allS (Or.inr sz_r1) all0)
  have N2 := Fr.app N1 N2q
  refine go st2 ?_
  show Run _ _ _ _ _ _ _ T2 (mkF m 23 #[.val (.ref a0), .val (.int (0 : Int32)), .val (.int (2 : Int32)), .val (.ref r1), .val (.int (0 : Int32))] [])
  refine go (T' := T2) (f' := (mkF m 26 #[.val (.ref a0), .val (.int (1 : Int32)), .val (.int (2 : Int32)), .val (.ref r1), .val (.int (0 : Int32))] [])) (by intro t k; exact XS.iinc X2.here hx rfl (hb hby d23_23) rfl (l' := #[.val (.ref a0), .val (.int (1 : Int32)), .val (.int (2 : Int32)), .val (.ref r1), .val (.int (0 : Int32))]) rfl k) ?_
  refine go (T' := T2) (f' := (mkF m 29 #[.val (.ref a0), .val (.int (1 : Int32)), .val (.int (2 : Int32)), .val (.ref r1), .val (.int (1 : Int32))] [])) (by intro t k; exact XS.iinc X2.here hx rfl (hb hby d23_26) rfl (l' := #[.val (.ref a0), .val (.int (1 : Int32)), .val (.int (2 : Int32)), .val (.ref r1), .val (.int (1 : Int32))]) rfl k) ?_
  refine go (T' := T2) (f' := (mkF m 8 #[.val (.ref a0), .val (.int (1 : Int32)), .val (.int (2 : Int32)), .val (.ref r1), .val (.int (1 : Int32))] [])) (by intro t k; exact XS.goto X2.here hx rfl (pc0 := 29) (pc' := 8) rfl (hb hby d23_29) (by decide) (by decide) k) ?_
  refine go (T' := T2) (f' := (mkF m 10 #[.val (.ref a0), .val (.int (1 : Int32)), .val (.int (2 : Int32)), .val (.ref r1), .val (.int (1 : Int32))] [(.int (1 : Int32))])) (by intro t k; exact XS.iload X2.here hx rfl (hb hby d23_8) rfl k) ?_
  refine go (T' := T2) (f' := (mkF m 11 #[.val (.ref a0), .val (.int (1 : Int32)), .val (.int (2 : Int32)), .val (.ref r1), .val (.int (1 : Int32))] [(.int (2 : Int32)), (.int (1 : Int32))])) (by intro t k; exact XS.iloadN X2.here hx rfl (hb hby d23_10) rfl k) ?_
  refine go (T' := T2) (f' := (mkF m 14 #[.val (.ref a0), .val (.int (1 : Int32)), .val (.int (2 : Int32)), .val (.ref r1), .val (.int (1 : Int32))] [])) (by intro t k; exact XS.icmpNo X2.here hx rfl (hb hby d23_11) rfl (tlt (by decide : (1 : Int32) < (2 : Int32))).2.1 k) ?_
  refine go (T' := T2) (f' := (mkF m 15 #[.val (.ref a0), .val (.int (1 : Int32)), .val (.int (2 : Int32)), .val (.ref r1), .val (.int (1 : Int32))] [(.ref r1)])) (by intro t k; exact XS.aloadN X2.here hx rfl (hb hby d23_14) rfl rfl k) ?_
  refine go (T' := T2) (f' := (mkF m 17 #[.val (.ref a0), .val (.int (1 : Int32)), .val (.int (2 : Int32)), .val (.ref r1), .val (.int (1 : Int32))] [(.int (1 : Int32)), (.ref r1)])) (by intro t k; exact XS.iload X2.here hx rfl (hb hby d23_15) rfl k) ?_
  refine go (T' := T2) (f' := (mkF m 18 #[.val (.ref a0), .val (.int (1 : Int32)), .val (.int (2 : Int32)), .val (.ref r1), .val (.int (1 : Int32))] [(.ref a0), (.int (1 : Int32)), (.ref r1)])) (by intro t k; exact XS.aloadN X2.here hx rfl (hb hby d23_17) rfl rfl k) ?_
  refine go (T' := T2) (f' := (mkF m 19 #[.val (.ref a0), .val (.int (1 : Int32)), .val (.int (2 : Int32)), .val (.ref r1), .val (.int (1 : Int32))] [(.int (1 : Int32)), (.ref a0), (.int (1 : Int32)), (.ref r1)])) (by intro t k; exact XS.iloadN X2.here hx rfl (hb hby d23_18) rfl k) ?_
  refine go (T' := T2) (f' := (mkF m 20 #[.val (.ref a0), .val (.int (1 : Int32)), .val (.int (2 : Int32)), .val (.ref r1), .val (.int (1 : Int32))] [(.int c1), (.int (1 : Int32)), (.ref r1)])) (by intro t k; exact ldC X2 hx hZ rfl A2_a0 (j := (1 : Int32)) (v := (.int c1)) (by decide) rfl (g := (mkF m 19 #[.val (.ref a0), .val (.int (1 : Int32)), .val (.int (2 : Int32)), .val (.ref r1), .val (.int (1 : Int32))] [(.int (1 : Int32)), (.ref a0), (.int (1 : Int32)), (.ref r1)])) rfl rfl (hb hby d23_19) _ k) ?_
  obtain ⟨_, _, ⟨T3, Lz3, kz3, nz3⟩, -, X3, ⟨Lc3, hQ3, lz3, yz3, zz3⟩, st3⟩ := Jvm.LawKit.callS X2 hx (y := (⟨"java/lang/StringUTF16", "putChar", "([BII)V"⟩ : MethodName)) hown (mvT hZ (hw _ (List.mem_of_getElem? (i := 121) rfl))) (mvT hZ (hw _ (List.mem_of_getElem? (i := 122) rfl))) (mvT hZ (hw _ (List.mem_of_getElem? (i := 24) rfl))) (mvT hZ (hw _ (List.mem_of_getElem? (i := 123) rfl))) (by decide) (backOf (W := 0) (rm26i1 l Z aw hw [] r1 c1 (nar .byte (((c0 >>> ((0 : Int32) &&& 31))).toInt8.toInt32)) (nar .byte (((c0 >>> ((8 : Int32) &&& 31))).toInt8.toInt32)) (0 : Int32) (0 : Int32) T2.heap n0 Z2 O2 S_ad S_hi S_lo Aq2 ge_r1) hZ (hw _ (List.mem_of_getElem? (i := 123) rfl)) (hw _ (List.mem_of_getElem? (i := 24) rfl)) (by decide) (by decide)) (g := (mkF m 20 #[.val (.ref a0), .val (.int (1 : Int32)), .val (.int (2 : Int32)), .val (.ref r1), .val (.int (1 : Int32))] [(.int c1), (.int (1 : Int32)), (.ref r1)])) rfl (by rw [hml]; rfl) (argsL := [(.ref r1), (.int (1 : Int32)), (.int c1)]) (rest := []) (lenOf pd_285bBII29V rfl) rfl (by show 2 * 0 + _ ≤ _; exact Nat.le_of_eq rfl) (hb hby d23_20) (fun _ _ => ⟨rfl, rfl, (by decide : 1 + 0 ≤ _), (by decide : 4 + 0 ≤ _)⟩)
  dsimp only [Pt.U, Pt.locs, Pt.cells, Pt.slots] at X3 lz3 yz3 zz3 st3 hQ3
  subst lz3 yz3 zz3
  obtain ⟨rfl, N3q, K3, Aq3⟩ := hQ3
  have A3_a0 := Ary.keep A2_a0 K3 (ninS ne_a0_r1 nin0)
  have O3 : Old Z n0 T3.heap := O2.keep K3 (allS ge_r1 all0)
  have Z3 : n0 ≤ T3.heap.size := Nat.le_trans Z2 K3.1
  have KK3 : Keep h0 T3.heap [] := KK2.trans K3 (allS (Or.inr sz_r1) all0)
  have N3 := Fr.app N2 N3q
  refine go st3 ?_
  show Run _ _ _ _ _ _ _ T3 (mkF m 23 #[.val (.ref a0), .val (.int (1 : Int32)), .val (.int (2 : Int32)), .val (.ref r1), .val (.int (1 : Int32))] [])
  refine go (T' := T3) (f' := (mkF m 26 #[.val (.ref a0), .val (.int (2 : Int32)), .val (.int (2 : Int32)), .val (.ref r1), .val (.int (1 : Int32))] [])) (by intro t k; exact XS.iinc X3.here hx rfl (hb hby d23_23) rfl (l' := #[.val (.ref a0), .val (.int (2 : Int32)), .val (.int (2 : Int32)), .val (.ref r1), .val (.int (1 : Int32))]) rfl k) ?_
  refine go (T' := T3) (f' := (mkF m 29 #[.val (.ref a0), .val (.int (2 : Int32)), .val (.int (2 : Int32)), .val (.ref r1), .val (.int (2 : Int32))] [])) (by intro t k; exact XS.iinc X3.here hx rfl (hb hby d23_26) rfl (l' := #[.val (.ref a0), .val (.int (2 : Int32)), .val (.int (2 : Int32)), .val (.ref r1), .val (.int (2 : Int32))]) rfl k) ?_
  refine go (T' := T3) (f' := (mkF m 8 #[.val (.ref a0), .val (.int (2 : Int32)), .val (.int (2 : Int32)), .val (.ref r1), .val (.int (2 : Int32))] [])) (by intro t k; exact XS.goto X3.here hx rfl (pc0 := 29) (pc' := 8) rfl (hb hby d23_29) (by decide) (by decide) k) ?_
  refine go (T' := T3) (f' := (mkF m 10 #[.val (.ref a0), .val (.int (2 : Int32)), .val (.int (2 : Int32)), .val (.ref r1), .val (.int (2 : Int32))] [(.int (2 : Int32))])) (by intro t k; exact XS.iload X3.here hx rfl (hb hby d23_8) rfl k) ?_
  refine go (T' := T3) (f' := (mkF m 11 #[.val (.ref a0), .val (.int (2 : Int32)), .val (.int (2 : Int32)), .val (.ref r1), .val (.int (2 : Int32))] [(.int (2 : Int32)), (.int (2 : Int32))])) (by intro t k; exact XS.iloadN X3.here hx rfl (hb hby d23_10) rfl k) ?_
  refine go (T' := T3) (f' := (mkF m 32 #[.val (.ref a0), .val (.int (2 : Int32)), .val (.int (2 : Int32)), .val (.ref r1), .val (.int (2 : Int32))] [])) (by intro t k; exact XS.icmpYes X3.here hx rfl (pc0 := 11) (pc' := 32) rfl (hb hby d23_11) rfl (flt (by decide : ¬ ((2 : Int32) < (2 : Int32)))).2.1 (by decide) (by decide) k) ?_
  refine go (T' := T3) (f' := (mkF m 33 #[.val (.ref a0), .val (.int (2 : Int32)), .val (.int (2 : Int32)), .val (.ref r1), .val (.int (2 : Int32))] [(.ref r1)])) (by intro t k; exact XS.aloadN X3.here hx rfl (hb hby d23_32) rfl rfl k) ?_
  refine retW X3 hx (t := (.array .byte)) Bd.returns rfl (Or.inr (Or.inr (Or.inr (Or.inr ⟨rfl, rfl, rfl⟩)))) (hb hby d23_33) hlk (by decide) (by decide) ?_
  show Q23 Z a0 c0 c1 h0 n0 _ T3.heap _
  have hv : h0.size ≤ r1 := by
    exact sz_r1
  exact ⟨_, rfl, hv, N3, KK3, Aq3⟩
theorem d6_23 : decode jdk_52_method_21_code 23 = .ok (.iload 5, 2) := by decide +kernel
theorem d6_25 : decode jdk_52_method_21_code 25 = .ok (.ireturn, 1) := by decide +kernel
theorem ef_6u (m : MethodId) (x0 : Addr) (x2 : Addr) : entryFrame m #[(.ref x0), (.int (0 : Int32)), (.ref x2), (.int (0 : Int32)), (.int (2 : Int32))] 7 = mkF m 0 #[.val (.ref x0), .val (.int (0 : Int32)), .val (.ref x2), .val (.int (0 : Int32)), .val (.int (2 : Int32)), .unset, .unset] [] := by first | (simp [entryFrame, mkF, argsToLocals, Value.category]; done) | rfl
def Q6u (Z : State) (a0 : Addr) (a2 : Addr) (c0 c1 : Int32) (h0 : Heap) (n0 : Nat) (v : Option Value) (h : Heap) (L : List Loc) : Prop := v = some (.int (0 : Int32)) ∧ Fr n0 L ∧ h = h0
set_option maxRecDepth 65536 in
set_option maxHeartbeats 40000000 in
theorem rm6u (l : Launch) (Z : State) (aw : Array Value) (hw : ∀ d ∈ tables_1, d.before aw Z = true) (ws : List Jvm.Cond) (a0 : Addr) (a2 : Addr) (c0 c1 : Int32) (h0 : Heap) (n0 : Nat) (Z0 : n0 ≤ h0.size) (A_a0 : Ary Z h0 a0 .char [(.int c0), (.int c1)]) (hu0 : (255 : Int32) < c0) :
    MetFree l (⟨"java/lang/StringUTF16", "compress", "([CI[BII)I"⟩ : MethodName) (head1 (Jvm.Cond.code (⟨"java/lang/StringUTF16", "compress", "([CI[BII)I"⟩ : MethodName) jdk_52_method_21_code 7 (some .int) :: ws) ({ frames := 0, cells := 0, slots := 0, locals := 0 } : Room)) (fun a U => a = #[(.ref a0), (.int (0 : Int32)), (.ref a2), (.int (0 : Int32)), (.int (2 : Int32))] ∧ Z.Warmed39 U.vm ∧ U.heap = h0) (fun _ _ _ _ _ => True) (fun _ U o U' => ∃ v L, o = .returned v ∧ Q6u Z a0 a2 c0 c1 h0 n0 v U'.heap L ∧ FrameEnd U o U' L ({ frames := 0, cells := 0, slots := 0, locals := 0 } : Room).cells ({ frames := 0, cells := 0, slots := 0, locals := 0 } : Room).slots) := by
  refine MetFree.of_bodySF (plainFor_of_name pn_6) hisR ?_
  intro p e s m args below meth c s₁ Bd hml0 hP hK
  obtain ⟨rfl, hZ, hh⟩ := hP
  have hx := Bd.exec
  have hby := Bd.bytes
  have hml : c.maxLocals = 7 := hml0
  have hown : s.vm.findClass "java/lang/StringUTF16" = some m.cls := findClass_of_methodNamed Bd.named
  have hnm := (name_of_methodNamed Bd.named Bd.method).1
  have hlk : meth.locks = false := BodyLoose.notSynchronized Bd
  have X0 : Stand p l e ({ frames := 0, cells := 0, slots := 0, locals := 0 } : Room) s m #[(.ref a0), (.int (0 : Int32)), (.ref a2), (.int (0 : Int32)), (.int (2 : Int32))] below meth c s₁ [] 0 0 := Stand.of_body Bd
  have e0 : s₁.heap = h0 := by rw [← hh, Bd.state]; rfl
  have N0 := Fr.nil n0
  show Run p e s below (Q6u Z a0 a2 c0 c1 h0 n0) ({ frames := 0, cells := 0, slots := 0, locals := 0 } : Room).cells ({ frames := 0, cells := 0, slots := 0, locals := 0 } : Room).slots s₁ (entryFrame m #[(.ref a0), (.int (0 : Int32)), (.ref a2), (.int (0 : Int32)), (.int (2 : Int32))] 7)
  rw [ef_6u]
  show Run _ _ _ _ _ _ _ s₁ (mkF m 0 #[.val (.ref a0), .val (.int (0 : Int32)), .val (.ref a2), .val (.int (0 : Int32)), .val (.int (2 : Int32)), .unset, .unset] [])
  refine go (T' := s₁) (f' := (mkF m 1 #[.val (.ref a0), .val (.int (0 : Int32)), .val (.ref a2), .val (.int (0 : Int32)), .val (.int (2 : Int32)), .unset, .unset] [(.int (0 : Int32))])) (by intro t k; exact XS.iconst X0.here hx rfl (hb hby d6_0) k) ?_
  refine go (T' := s₁) (f' := (mkF m 3 #[.val (.ref a0), .val (.int (0 : Int32)), .val (.ref a2), .val (.int (0 : Int32)), .val (.int (2 : Int32)), .val (.int (0 : Int32)), .unset] [])) (by intro t k; exact XS.istore X0.here hx rfl (hb hby d6_1) rfl (l' := #[.val (.ref a0), .val (.int (0 : Int32)), .val (.ref a2), .val (.int (0 : Int32)), .val (.int (2 : Int32)), .val (.int (0 : Int32)), .unset]) rfl k) ?_
  refine go (T' := s₁) (f' := (mkF m 5 #[.val (.ref a0), .val (.int (0 : Int32)), .val (.ref a2), .val (.int (0 : Int32)), .val (.int (2 : Int32)), .val (.int (0 : Int32)), .unset] [(.int (0 : Int32))])) (by intro t k; exact XS.iload X0.here hx rfl (hb hby d6_3) rfl k) ?_
  refine go (T' := s₁) (f' := (mkF m 7 #[.val (.ref a0), .val (.int (0 : Int32)), .val (.ref a2), .val (.int (0 : Int32)), .val (.int (2 : Int32)), .val (.int (0 : Int32)), .unset] [(.int (2 : Int32)), (.int (0 : Int32))])) (by intro t k; exact XS.iload X0.here hx rfl (hb hby d6_5) rfl k) ?_
  refine go (T' := s₁) (f' := (mkF m 10 #[.val (.ref a0), .val (.int (0 : Int32)), .val (.ref a2), .val (.int (0 : Int32)), .val (.int (2 : Int32)), .val (.int (0 : Int32)), .unset] [])) (by intro t k; exact XS.icmpNo X0.here hx rfl (hb hby d6_7) rfl (tlt (by decide : (0 : Int32) < (2 : Int32))).2.1 k) ?_
  refine go (T' := s₁) (f' := (mkF m 11 #[.val (.ref a0), .val (.int (0 : Int32)), .val (.ref a2), .val (.int (0 : Int32)), .val (.int (2 : Int32)), .val (.int (0 : Int32)), .unset] [(.ref a0)])) (by intro t k; exact XS.aloadN X0.here hx rfl (hb hby d6_10) rfl rfl k) ?_
  refine go (T' := s₁) (f' := (mkF m 12 #[.val (.ref a0), .val (.int (0 : Int32)), .val (.ref a2), .val (.int (0 : Int32)), .val (.int (2 : Int32)), .val (.int (0 : Int32)), .unset] [(.int (0 : Int32)), (.ref a0)])) (by intro t k; exact XS.iloadN X0.here hx rfl (hb hby d6_11) rfl k) ?_
  refine go (T' := s₁) (f' := (mkF m 13 #[.val (.ref a0), .val (.int (0 : Int32)), .val (.ref a2), .val (.int (0 : Int32)), .val (.int (2 : Int32)), .val (.int (0 : Int32)), .unset] [(.int c0)])) (by intro t k; exact ldC X0 hx hZ e0 A_a0 (j := (0 : Int32)) (v := (.int c0)) (by decide) rfl (g := (mkF m 12 #[.val (.ref a0), .val (.int (0 : Int32)), .val (.ref a2), .val (.int (0 : Int32)), .val (.int (2 : Int32)), .val (.int (0 : Int32)), .unset] [(.int (0 : Int32)), (.ref a0)])) rfl rfl (hb hby d6_12) _ k) ?_
  refine go (T' := s₁) (f' := (mkF m 15 #[.val (.ref a0), .val (.int (0 : Int32)), .val (.ref a2), .val (.int (0 : Int32)), .val (.int (2 : Int32)), .val (.int (0 : Int32)), .val (.int c0)] [])) (by intro t k; exact XS.istore X0.here hx rfl (hb hby d6_13) rfl (l' := #[.val (.ref a0), .val (.int (0 : Int32)), .val (.ref a2), .val (.int (0 : Int32)), .val (.int (2 : Int32)), .val (.int (0 : Int32)), .val (.int c0)]) rfl k) ?_
  refine go (T' := s₁) (f' := (mkF m 17 #[.val (.ref a0), .val (.int (0 : Int32)), .val (.ref a2), .val (.int (0 : Int32)), .val (.int (2 : Int32)), .val (.int (0 : Int32)), .val (.int c0)] [(.int c0)])) (by intro t k; exact XS.iload X0.here hx rfl (hb hby d6_15) rfl k) ?_
  refine go (T' := s₁) (f' := (mkF m 20 #[.val (.ref a0), .val (.int (0 : Int32)), .val (.ref a2), .val (.int (0 : Int32)), .val (.int (2 : Int32)), .val (.int (0 : Int32)), .val (.int c0)] [(.int (255 : Int32)), (.int c0)])) (by intro t k; exact XS.sipush X0.here hx rfl (hb hby d6_17) k) ?_
  refine go (T' := s₁) (f' := (mkF m 23 #[.val (.ref a0), .val (.int (0 : Int32)), .val (.ref a2), .val (.int (0 : Int32)), .val (.int (2 : Int32)), .val (.int (0 : Int32)), .val (.int c0)] [])) (by intro t k; exact XS.icmpNo X0.here hx rfl (hb hby d6_20) rfl (tlt (hu0 : (255 : Int32) < c0)).2.2.2 k) ?_
  refine go (T' := s₁) (f' := (mkF m 25 #[.val (.ref a0), .val (.int (0 : Int32)), .val (.ref a2), .val (.int (0 : Int32)), .val (.int (2 : Int32)), .val (.int (0 : Int32)), .val (.int c0)] [(.int (0 : Int32))])) (by intro t k; exact XS.iload X0.here hx rfl (hb hby d6_23) rfl k) ?_
  refine retW X0 hx (t := .int) Bd.returns rfl (Or.inl ⟨rfl, Or.inl rfl, _, rfl⟩) (hb hby d6_25) hlk (by decide) (by decide) ?_
  show Q6u Z a0 a2 c0 c1 h0 n0 _ s₁.heap _
  rw [e0]
  have hv : (some (.int (0 : Int32)) : Option Value) = some (.int (0 : Int32)) := rfl
  exact ⟨hv, N0, rfl⟩
theorem d5_20 : decode jdk_52_method_16_code 20 = .ok (.aload_n 0, 1) := by decide +kernel
theorem d5_21 : decode jdk_52_method_16_code 21 = .ok (.iload_n 1, 1) := by decide +kernel
theorem d5_22 : decode jdk_52_method_16_code 22 = .ok (.iload_n 2, 1) := by decide +kernel
theorem d5_23 : decode jdk_52_method_16_code 23 = .ok (.invokestatic 119, 3) := by decide +kernel
theorem d5_26 : decode jdk_52_method_16_code 26 = .ok (.astore 5, 2) := by decide +kernel
theorem d5_28 : decode jdk_52_method_16_code 28 = .ok (.aload 5, 2) := by decide +kernel
theorem d5_30 : decode jdk_52_method_16_code 30 = .ok (.iload 4, 2) := by decide +kernel
theorem d5_32 : decode jdk_52_method_16_code 32 = .ok (.invokestatic 71, 3) := by decide +kernel
theorem d5_35 : decode jdk_52_method_16_code 35 = .ok (.sipush 255, 3) := by decide +kernel
theorem d5_38 : decode jdk_52_method_16_code 38 = .ok (.if_icmp .gt 16, 3) := by decide +kernel
theorem d5_54 : decode jdk_52_method_16_code 54 = .ok (.aload 5, 2) := by decide +kernel
theorem d5_56 : decode jdk_52_method_16_code 56 = .ok (.areturn, 1) := by decide +kernel
theorem ef_5u (m : MethodId) (x0 : Addr) : entryFrame m #[(.ref x0), (.int (0 : Int32)), (.int (2 : Int32))] 6 = mkF m 0 #[.val (.ref x0), .val (.int (0 : Int32)), .val (.int (2 : Int32)), .unset, .unset, .unset] [] := by first | (simp [entryFrame, mkF, argsToLocals, Value.category]; done) | rfl
def Q5u (Z : State) (a0 : Addr) (c0 c1 : Int32) (h0 : Heap) (n0 : Nat) (v : Option Value) (h : Heap) (L : List Loc) : Prop := ∃ r : Addr, v = some (.ref r) ∧ h0.size ≤ r ∧ Fr n0 L ∧ Keep h0 h [] ∧ Ary Z h r .byte [(.int (nar .byte (((c0 >>> ((0 : Int32) &&& 31))).toInt8.toInt32))), (.int (nar .byte (((c0 >>> ((8 : Int32) &&& 31))).toInt8.toInt32))), (.int (nar .byte (((c1 >>> ((0 : Int32) &&& 31))).toInt8.toInt32))), (.int (nar .byte (((c1 >>> ((8 : Int32) &&& 31))).toInt8.toInt32)))]
set_option maxRecDepth 65536 in
set_option maxHeartbeats 40000000 in
theorem rm5u (l : Launch) (Z : State) (aw : Array Value) (hw : ∀ d ∈ tables_1, d.before aw Z = true) (ws : List Jvm.Cond) (a0 : Addr) (c0 c1 : Int32) (h0 : Heap) (n0 : Nat) (Z0 : n0 ≤ h0.size) (O0 : Old Z n0 h0) (S_ad : Sta Z Z.heap "java/lang/StringUTF16" "$assertionsDisabled" "Z" (.int (1 : Int32))) (S_hi : Sta Z Z.heap "java/lang/StringUTF16" "HI_BYTE_SHIFT" "I" (.int (0 : Int32))) (S_lo : Sta Z Z.heap "java/lang/StringUTF16" "LO_BYTE_SHIFT" "I" (.int (8 : Int32))) (A_a0 : Ary Z h0 a0 .char [(.int c0), (.int c1)]) (hk0 : nar .char c0 = c0) (hu0 : (255 : Int32) < c0) :
    MetFree l (⟨"java/lang/StringUTF16", "compress", "([CII)[B"⟩ : MethodName) (head1 (Jvm.Cond.code (⟨"java/lang/StringUTF16", "compress", "([CII)[B"⟩ : MethodName) jdk_52_method_16_code 6 (some (.array .byte)) :: ws) ({ frames := 3, cells := 2, slots := 6, locals := 40 } : Room)) (fun a U => a = #[(.ref a0), (.int (0 : Int32)), (.int (2 : Int32))] ∧ Z.Warmed39 U.vm ∧ U.heap = h0) (fun _ _ _ _ _ => True) (fun _ U o U' => ∃ v L, o = .returned v ∧ Q5u Z a0 c0 c1 h0 n0 v U'.heap L ∧ FrameEnd U o U' L ({ frames := 3, cells := 2, slots := 6, locals := 40 } : Room).cells ({ frames := 3, cells := 2, slots := 6, locals := 40 } : Room).slots) := by
  refine MetFree.of_bodySF (plainFor_of_name pn_6) hisR ?_
  intro p e s m args below meth c s₁ Bd hml0 hP hK
  obtain ⟨rfl, hZ, hh⟩ := hP
  have hx := Bd.exec
  have hby := Bd.bytes
  have hml : c.maxLocals = 6 := hml0
  have hown : s.vm.findClass "java/lang/StringUTF16" = some m.cls := findClass_of_methodNamed Bd.named
  have hnm := (name_of_methodNamed Bd.named Bd.method).1
  have hlk : meth.locks = false := BodyLoose.notSynchronized Bd
  have X0 : Stand p l e ({ frames := 3, cells := 2, slots := 6, locals := 40 } : Room) s m #[(.ref a0), (.int (0 : Int32)), (.int (2 : Int32))] below meth c s₁ [] 0 0 := Stand.of_body Bd
  have e0 : s₁.heap = h0 := by rw [← hh, Bd.state]; rfl
  have N0 := Fr.nil n0
  show Run p e s below (Q5u Z a0 c0 c1 h0 n0) ({ frames := 3, cells := 2, slots := 6, locals := 40 } : Room).cells ({ frames := 3, cells := 2, slots := 6, locals := 40 } : Room).slots s₁ (entryFrame m #[(.ref a0), (.int (0 : Int32)), (.int (2 : Int32))] 6)
  rw [ef_5u]
  show Run _ _ _ _ _ _ _ s₁ (mkF m 0 #[.val (.ref a0), .val (.int (0 : Int32)), .val (.int (2 : Int32)), .unset, .unset, .unset] [])
  refine go (T' := s₁) (f' := (mkF m 1 #[.val (.ref a0), .val (.int (0 : Int32)), .val (.int (2 : Int32)), .unset, .unset, .unset] [(.int (2 : Int32))])) (by intro t k; exact XS.iloadN X0.here hx rfl (hb hby d5_0) rfl k) ?_
  obtain ⟨T1, h1, kA1, X1, e1, E1, A1, EX1, st1⟩ := newPE X0 hx hZ (hw _ (List.mem_of_getElem? (i := 26) rfl)) e0 (g := (mkF m 1 #[.val (.ref a0), .val (.int (0 : Int32)), .val (.int (2 : Int32)), .unset, .unset, .unset] [(.int (2 : Int32))])) rfl (hb hby d5_1) rfl (by decide) (cap := 2) (by decide) (by decide) (by decide) (by decide) (ad := "[B") (by decide)
  obtain ⟨b1, g1⟩ : ∃ z, z = h0.size := ⟨_, rfl⟩
  rw [← g1] at A1 EX1 st1
  have ne_a0_b1 : a0 ≠ b1 := Nat.ne_of_lt (Nat.lt_of_lt_of_eq A_a0.lt g1.symm)
  have ge_b1 : n0 ≤ b1 := Nat.le_trans Z0 (Nat.le_of_eq g1.symm)
  have sz_b1 : h0.size ≤ b1 := Nat.le_trans (Keep.refl h0 []).1 (Nat.le_of_eq g1.symm)
  have K1 : Keep h0 h1 [] := (Keep.refl _ _).ext E1
  have A1_a0 := Ary.keep A_a0 K1 nin0
  have O1 : Old Z n0 h1 := O0.keep K1 all0
  have Z1 : n0 ≤ h1.size := Nat.le_trans Z0 K1.1
  have KK1 : Keep h0 h1 [] := (Keep.refl _ _).trans K1 all0
  have V1 : Ary Z h1 b1 .byte [(.int (0 : Int32)), (.int (0 : Int32))] := Ary.new A1
  refine go st1 ?_
  show Run _ _ _ _ _ _ _ T1 (mkF m 3 #[.val (.ref a0), .val (.int (0 : Int32)), .val (.int (2 : Int32)), .unset, .unset, .unset] [(.ref b1)])
  refine go (T' := T1) (f' := (mkF m 4 #[.val (.ref a0), .val (.int (0 : Int32)), .val (.int (2 : Int32)), .val (.ref b1), .unset, .unset] [])) (by intro t k; exact XS.astoreN X1.here hx rfl (hb hby d5_3) rfl rfl (l' := #[.val (.ref a0), .val (.int (0 : Int32)), .val (.int (2 : Int32)), .val (.ref b1), .unset, .unset]) rfl k) ?_
  refine go (T' := T1) (f' := (mkF m 5 #[.val (.ref a0), .val (.int (0 : Int32)), .val (.int (2 : Int32)), .val (.ref b1), .unset, .unset] [(.ref a0)])) (by intro t k; exact XS.aloadN X1.here hx rfl (hb hby d5_4) rfl rfl k) ?_
  refine go (T' := T1) (f' := (mkF m 6 #[.val (.ref a0), .val (.int (0 : Int32)), .val (.int (2 : Int32)), .val (.ref b1), .unset, .unset] [(.int (0 : Int32)), (.ref a0)])) (by intro t k; exact XS.iloadN X1.here hx rfl (hb hby d5_5) rfl k) ?_
  refine go (T' := T1) (f' := (mkF m 7 #[.val (.ref a0), .val (.int (0 : Int32)), .val (.int (2 : Int32)), .val (.ref b1), .unset, .unset] [(.ref b1), (.int (0 : Int32)), (.ref a0)])) (by intro t k; exact XS.aloadN X1.here hx rfl (hb hby d5_6) rfl rfl k) ?_
  refine go (T' := T1) (f' := (mkF m 8 #[.val (.ref a0), .val (.int (0 : Int32)), .val (.int (2 : Int32)), .val (.ref b1), .unset, .unset] [(.int (0 : Int32)), (.ref b1), (.int (0 : Int32)), (.ref a0)])) (by intro t k; exact XS.iconst X1.here hx rfl (hb hby d5_7) k) ?_
  refine go (T' := T1) (f' := (mkF m 9 #[.val (.ref a0), .val (.int (0 : Int32)), .val (.int (2 : Int32)), .val (.ref b1), .unset, .unset] [(.int (2 : Int32)), (.int (0 : Int32)), (.ref b1), (.int (0 : Int32)), (.ref a0)])) (by intro t k; exact XS.iloadN X1.here hx rfl (hb hby d5_8) rfl k) ?_
  obtain ⟨_, _, ⟨T2, Lz2, kz2, nz2⟩, -, X2, ⟨Lc2, hQ2, lz2, yz2, zz2⟩, st2⟩ := Jvm.LawKit.callS X1 hx (y := (⟨"java/lang/StringUTF16", "compress", "([CI[BII)I"⟩ : MethodName)) hown (mvT hZ (hw _ (List.mem_of_getElem? (i := 27) rfl))) (mvT hZ (hw _ (List.mem_of_getElem? (i := 28) rfl))) (mvT hZ (hw _ (List.mem_of_getElem? (i := 24) rfl))) (mvT hZ (hw _ (List.mem_of_getElem? (i := 29) rfl))) (by decide) (backOf (W := 0) (rm6u l Z aw hw [] a0 b1 c0 c1 h1 n0 Z1 A1_a0 hu0) hZ (hw _ (List.mem_of_getElem? (i := 29) rfl)) (hw _ (List.mem_of_getElem? (i := 24) rfl)) (by decide) (by decide)) (g := (mkF m 9 #[.val (.ref a0), .val (.int (0 : Int32)), .val (.int (2 : Int32)), .val (.ref b1), .unset, .unset] [(.int (2 : Int32)), (.int (0 : Int32)), (.ref b1), (.int (0 : Int32)), (.ref a0)])) rfl (by rw [hml]; rfl) (argsL := [(.ref a0), (.int (0 : Int32)), (.ref b1), (.int (0 : Int32)), (.int (2 : Int32))]) (rest := []) (lenOf pd_285bCI5bBII29I rfl) rfl (by show 2 * 0 + _ ≤ _; exact Nat.le_of_eq rfl) (hb hby d5_9) (fun _ _ => ⟨rfl, e1, (by decide : 1 + 0 ≤ _), (by decide : 2 + 0 ≤ _)⟩)
  dsimp only [Pt.U, Pt.locs, Pt.cells, Pt.slots] at X2 lz2 yz2 zz2 st2 hQ2
  subst lz2 yz2 zz2
  obtain ⟨rfl, N2q, e2⟩ := hQ2
  have N2 := Fr.app N0 N2q
  refine go st2 ?_
  show Run _ _ _ _ _ _ _ T2 (mkF m 12 #[.val (.ref a0), .val (.int (0 : Int32)), .val (.int (2 : Int32)), .val (.ref b1), .unset, .unset] [(.int (0 : Int32))])
  refine go (T' := T2) (f' := (mkF m 14 #[.val (.ref a0), .val (.int (0 : Int32)), .val (.int (2 : Int32)), .val (.ref b1), .val (.int (0 : Int32)), .unset] [])) (by intro t k; exact XS.istore X2.here hx rfl (hb hby d5_12) rfl (l' := #[.val (.ref a0), .val (.int (0 : Int32)), .val (.int (2 : Int32)), .val (.ref b1), .val (.int (0 : Int32)), .unset]) rfl k) ?_
  refine go (T' := T2) (f' := (mkF m 16 #[.val (.ref a0), .val (.int (0 : Int32)), .val (.int (2 : Int32)), .val (.ref b1), .val (.int (0 : Int32)), .unset] [(.int (0 : Int32))])) (by intro t k; exact XS.iload X2.here hx rfl (hb hby d5_14) rfl k) ?_
  refine go (T' := T2) (f' := (mkF m 17 #[.val (.ref a0), .val (.int (0 : Int32)), .val (.int (2 : Int32)), .val (.ref b1), .val (.int (0 : Int32)), .unset] [(.int (2 : Int32)), (.int (0 : Int32))])) (by intro t k; exact XS.iloadN X2.here hx rfl (hb hby d5_16) rfl k) ?_
  refine go (T' := T2) (f' := (mkF m 20 #[.val (.ref a0), .val (.int (0 : Int32)), .val (.int (2 : Int32)), .val (.ref b1), .val (.int (0 : Int32)), .unset] [])) (by intro t k; exact XS.icmpNo X2.here hx rfl (hb hby d5_17) rfl (feq (by decide : ¬ ((0 : Int32) = (2 : Int32)))).1 k) ?_
  refine go (T' := T2) (f' := (mkF m 21 #[.val (.ref a0), .val (.int (0 : Int32)), .val (.int (2 : Int32)), .val (.ref b1), .val (.int (0 : Int32)), .unset] [(.ref a0)])) (by intro t k; exact XS.aloadN X2.here hx rfl (hb hby d5_20) rfl rfl k) ?_
  refine go (T' := T2) (f' := (mkF m 22 #[.val (.ref a0), .val (.int (0 : Int32)), .val (.int (2 : Int32)), .val (.ref b1), .val (.int (0 : Int32)), .unset] [(.int (0 : Int32)), (.ref a0)])) (by intro t k; exact XS.iloadN X2.here hx rfl (hb hby d5_21) rfl k) ?_
  refine go (T' := T2) (f' := (mkF m 23 #[.val (.ref a0), .val (.int (0 : Int32)), .val (.int (2 : Int32)), .val (.ref b1), .val (.int (0 : Int32)), .unset] [(.int (2 : Int32)), (.int (0 : Int32)), (.ref a0)])) (by intro t k; exact XS.iloadN X2.here hx rfl (hb hby d5_22) rfl k) ?_
  obtain ⟨_, _, ⟨T3, Lz3, kz3, nz3⟩, -, X3, ⟨Lc3, hQ3, lz3, yz3, zz3⟩, st3⟩ := Jvm.LawKit.callS X2 hx (y := (⟨"java/lang/StringUTF16", "toBytes", "([CII)[B"⟩ : MethodName)) hown (mvT hZ (hw _ (List.mem_of_getElem? (i := 111) rfl))) (mvT hZ (hw _ (List.mem_of_getElem? (i := 112) rfl))) (mvT hZ (hw _ (List.mem_of_getElem? (i := 24) rfl))) (mvT hZ (hw _ (List.mem_of_getElem? (i := 113) rfl))) (by decide) (backOf (W := 0) (rm23 l Z aw hw [] a0 c0 c1 h1 n0 Z1 O1 S_ad S_hi S_lo A1_a0) hZ (hw _ (List.mem_of_getElem? (i := 113) rfl)) (hw _ (List.mem_of_getElem? (i := 24) rfl)) (by decide) (by decide)) (g := (mkF m 23 #[.val (.ref a0), .val (.int (0 : Int32)), .val (.int (2 : Int32)), .val (.ref b1), .val (.int (0 : Int32)), .unset] [(.int (2 : Int32)), (.int (0 : Int32)), (.ref a0)])) rfl (by rw [hml]; rfl) (argsL := [(.ref a0), (.int (0 : Int32)), (.int (2 : Int32))]) (rest := []) (lenOf pd_285bCII295bB rfl) rfl (by show 2 * 0 + _ ≤ _; exact Nat.le_of_eq rfl) (hb hby d5_23) (fun _ _ => ⟨rfl, e2, (by decide : 1 + 1 ≤ _), (by decide : 2 + 4 ≤ _)⟩)
  dsimp only [Pt.U, Pt.locs, Pt.cells, Pt.slots] at X3 lz3 yz3 zz3 st3 hQ3
  subst lz3 yz3 zz3
  obtain ⟨r3, rfl, sz3, N3q, K3, Aq3⟩ := hQ3
  have ne_b1_r3 : b1 ≠ r3 := Nat.ne_of_lt (Nat.lt_of_lt_of_le EX1.lt sz3)
  have ne_a0_r3 : a0 ≠ r3 := Nat.ne_of_lt (Nat.lt_of_lt_of_le A1_a0.lt sz3)
  have ge_r3 : n0 ≤ r3 := Nat.le_trans Z1 sz3
  have sz_r3 : h0.size ≤ r3 := Nat.le_trans KK1.1 sz3
  have E3_b1 := Exa.keep EX1 K3
  have A3_a0 := Ary.keep A1_a0 K3 nin0
  have A3_b1 := Ary.keep V1 K3 nin0
  have O3 : Old Z n0 T3.heap := O1.keep K3 all0
  have Z3 : n0 ≤ T3.heap.size := Nat.le_trans Z1 K3.1
  have KK3 : Keep h0 T3.heap [] := KK1.trans K3 all0
  have N3 := Fr.app N2 N3q
  refine go st3 ?_
  show Run _ _ _ _ _ _ _ T3 (mkF m 26 #[.val (.ref a0), .val (.int (0 : Int32)), .val (.int (2 : Int32)), .val (.ref b1), .val (.int (0 : Int32)), .unset] [(.ref r3)])
  refine go (T' := T3) (f' := (mkF m 28 #[.val (.ref a0), .val (.int (0 : Int32)), .val (.int (2 : Int32)), .val (.ref b1), .val (.int (0 : Int32)), .val (.ref r3)] [])) (by intro t k; exact XS.astore X3.here hx rfl (hb hby d5_26) rfl rfl (l' := #[.val (.ref a0), .val (.int (0 : Int32)), .val (.int (2 : Int32)), .val (.ref b1), .val (.int (0 : Int32)), .val (.ref r3)]) rfl k) ?_
  refine go (T' := T3) (f' := (mkF m 30 #[.val (.ref a0), .val (.int (0 : Int32)), .val (.int (2 : Int32)), .val (.ref b1), .val (.int (0 : Int32)), .val (.ref r3)] [(.ref r3)])) (by intro t k; exact XS.aload X3.here hx rfl (hb hby d5_28) rfl rfl k) ?_
  refine go (T' := T3) (f' := (mkF m 32 #[.val (.ref a0), .val (.int (0 : Int32)), .val (.int (2 : Int32)), .val (.ref b1), .val (.int (0 : Int32)), .val (.ref r3)] [(.int (0 : Int32)), (.ref r3)])) (by intro t k; exact XS.iload X3.here hx rfl (hb hby d5_30) rfl k) ?_
  obtain ⟨_, _, ⟨T4, Lz4, kz4, nz4⟩, -, X4, ⟨Lc4, hQ4, lz4, yz4, zz4⟩, st4⟩ := Jvm.LawKit.callS X3 hx (y := (⟨"java/lang/StringUTF16", "getChar", "([BI)C"⟩ : MethodName)) hown (mvT hZ (hw _ (List.mem_of_getElem? (i := 127) rfl))) (mvT hZ (hw _ (List.mem_of_getElem? (i := 128) rfl))) (mvT hZ (hw _ (List.mem_of_getElem? (i := 24) rfl))) (mvT hZ (hw _ (List.mem_of_getElem? (i := 129) rfl))) (by decide) (backOf (W := 0) (rm27 l Z aw hw [] r3 (nar .byte (((c0 >>> ((0 : Int32) &&& 31))).toInt8.toInt32)) (nar .byte (((c0 >>> ((8 : Int32) &&& 31))).toInt8.toInt32)) (nar .byte (((c1 >>> ((0 : Int32) &&& 31))).toInt8.toInt32)) (nar .byte (((c1 >>> ((8 : Int32) &&& 31))).toInt8.toInt32)) c0 T3.heap n0 Z3 O3 S_ad S_hi S_lo Aq3 (own_gc hk0)) hZ (hw _ (List.mem_of_getElem? (i := 129) rfl)) (hw _ (List.mem_of_getElem? (i := 24) rfl)) (by decide) (by decide)) (g := (mkF m 32 #[.val (.ref a0), .val (.int (0 : Int32)), .val (.int (2 : Int32)), .val (.ref b1), .val (.int (0 : Int32)), .val (.ref r3)] [(.int (0 : Int32)), (.ref r3)])) rfl (by rw [hml]; rfl) (argsL := [(.ref r3), (.int (0 : Int32))]) (rest := []) (lenOf pd_285bBI29C rfl) rfl (by show 2 * 0 + _ ≤ _; exact Nat.le_of_eq rfl) (hb hby d5_32) (fun _ _ => ⟨rfl, rfl, (by decide : 2 + 0 ≤ _), (by decide : 6 + 0 ≤ _)⟩)
  dsimp only [Pt.U, Pt.locs, Pt.cells, Pt.slots] at X4 lz4 yz4 zz4 st4 hQ4
  subst lz4 yz4 zz4
  obtain ⟨rfl, N4q, e4⟩ := hQ4
  have N4 := Fr.app N3 N4q
  refine go st4 ?_
  show Run _ _ _ _ _ _ _ T4 (mkF m 35 #[.val (.ref a0), .val (.int (0 : Int32)), .val (.int (2 : Int32)), .val (.ref b1), .val (.int (0 : Int32)), .val (.ref r3)] [(.int c0)])
  refine go (T' := T4) (f' := (mkF m 38 #[.val (.ref a0), .val (.int (0 : Int32)), .val (.int (2 : Int32)), .val (.ref b1), .val (.int (0 : Int32)), .val (.ref r3)] [(.int (255 : Int32)), (.int c0)])) (by intro t k; exact XS.sipush X4.here hx rfl (hb hby d5_35) k) ?_
  refine go (T' := T4) (f' := (mkF m 54 #[.val (.ref a0), .val (.int (0 : Int32)), .val (.int (2 : Int32)), .val (.ref b1), .val (.int (0 : Int32)), .val (.ref r3)] [])) (by intro t k; exact XS.icmpYes X4.here hx rfl (pc0 := 38) (pc' := 54) rfl (hb hby d5_38) rfl (tlt (hu0 : (255 : Int32) < c0)).2.2.1 (by decide) (by decide) k) ?_
  refine go (T' := T4) (f' := (mkF m 56 #[.val (.ref a0), .val (.int (0 : Int32)), .val (.int (2 : Int32)), .val (.ref b1), .val (.int (0 : Int32)), .val (.ref r3)] [(.ref r3)])) (by intro t k; exact XS.aload X4.here hx rfl (hb hby d5_54) rfl rfl k) ?_
  refine retW X4 hx (t := (.array .byte)) Bd.returns rfl (Or.inr (Or.inr (Or.inr (Or.inr ⟨rfl, rfl, rfl⟩)))) (hb hby d5_56) hlk (by decide) (by decide) ?_
  show Q5u Z a0 c0 c1 h0 n0 _ T4.heap _
  rw [e4]
  have hv : h0.size ≤ r3 := by
    exact sz_r3
  exact ⟨_, rfl, hv, N4, KK3, Aq3⟩
theorem ef_7u (m : MethodId) (x0 : Addr) : entryFrame m #[(.ref x0), (.int (2 : Int32))] 2 = mkF m 0 #[.val (.ref x0), .val (.int (2 : Int32))] [] := by first | (simp [entryFrame, mkF, argsToLocals, Value.category]; done) | rfl
def Q7u (Z : State) (a0 : Addr) (x0 x1 x2 x3 : Int32) (h0 : Heap) (n0 : Nat) (v : Option Value) (h : Heap) (L : List Loc) : Prop := v = some (.int (1 : Int32)) ∧ Fr n0 L ∧ h = h0
set_option maxRecDepth 65536 in
set_option maxHeartbeats 40000000 in
theorem rm7u (l : Launch) (Z : State) (aw : Array Value) (hw : ∀ d ∈ tables_1, d.before aw Z = true) (ws : List Jvm.Cond) (a0 : Addr) (x0 x1 x2 x3 : Int32) (h0 : Heap) (n0 : Nat) (Z0 : n0 ≤ h0.size) (A_a0 : Ary Z h0 a0 .byte [(.int x0), (.int x1), (.int x2), (.int x3)]) :
    MetFree l (⟨"java/lang/StringUTF16", "coderFromArrayLen", "([BI)B"⟩ : MethodName) (head1 (Jvm.Cond.code (⟨"java/lang/StringUTF16", "coderFromArrayLen", "([BI)B"⟩ : MethodName) jdk_52_method_15_code 2 (some .byte) :: ws) ({ frames := 0, cells := 0, slots := 0, locals := 0 } : Room)) (fun a U => a = #[(.ref a0), (.int (2 : Int32))] ∧ Z.Warmed39 U.vm ∧ U.heap = h0) (fun _ _ _ _ _ => True) (fun _ U o U' => ∃ v L, o = .returned v ∧ Q7u Z a0 x0 x1 x2 x3 h0 n0 v U'.heap L ∧ FrameEnd U o U' L ({ frames := 0, cells := 0, slots := 0, locals := 0 } : Room).cells ({ frames := 0, cells := 0, slots := 0, locals := 0 } : Room).slots) := by
  refine MetFree.of_bodySF (plainFor_of_name pn_6) hisR ?_
  intro p e s m args below meth c s₁ Bd hml0 hP hK
  obtain ⟨rfl, hZ, hh⟩ := hP
  have hx := Bd.exec
  have hby := Bd.bytes
  have hml : c.maxLocals = 2 := hml0
  have hown : s.vm.findClass "java/lang/StringUTF16" = some m.cls := findClass_of_methodNamed Bd.named
  have hnm := (name_of_methodNamed Bd.named Bd.method).1
  have hlk : meth.locks = false := BodyLoose.notSynchronized Bd
  have X0 : Stand p l e ({ frames := 0, cells := 0, slots := 0, locals := 0 } : Room) s m #[(.ref a0), (.int (2 : Int32))] below meth c s₁ [] 0 0 := Stand.of_body Bd
  have e0 : s₁.heap = h0 := by rw [← hh, Bd.state]; rfl
  have N0 := Fr.nil n0
  show Run p e s below (Q7u Z a0 x0 x1 x2 x3 h0 n0) ({ frames := 0, cells := 0, slots := 0, locals := 0 } : Room).cells ({ frames := 0, cells := 0, slots := 0, locals := 0 } : Room).slots s₁ (entryFrame m #[(.ref a0), (.int (2 : Int32))] 2)
  rw [ef_7u]
  show Run _ _ _ _ _ _ _ s₁ (mkF m 0 #[.val (.ref a0), .val (.int (2 : Int32))] [])
  refine go (T' := s₁) (f' := (mkF m 1 #[.val (.ref a0), .val (.int (2 : Int32))] [(.int (2 : Int32))])) (by intro t k; exact XS.iloadN X0.here hx rfl (hb hby d7_0) rfl k) ?_
  refine go (T' := s₁) (f' := (mkF m 2 #[.val (.ref a0), .val (.int (2 : Int32))] [(.ref a0), (.int (2 : Int32))])) (by intro t k; exact XS.aloadN X0.here hx rfl (hb hby d7_1) rfl rfl k) ?_
  refine go (T' := s₁) (f' := (mkF m 3 #[.val (.ref a0), .val (.int (2 : Int32))] [(.int (4 : Int32)), (.int (2 : Int32))])) (by intro t k; exact alen X0 hx hZ e0 A_a0 (z := (4 : Int32)) rfl (g := (mkF m 2 #[.val (.ref a0), .val (.int (2 : Int32))] [(.ref a0), (.int (2 : Int32))])) rfl rfl (hb hby d7_2) _ k) ?_
  refine go (T' := s₁) (f' := (mkF m 4 #[.val (.ref a0), .val (.int (2 : Int32))] [(.int (-2 : Int32))])) (by intro t k; exact XS.isub X0.here hx rfl (hb hby d7_3) rfl k) ?_
  refine go (T' := s₁) (f' := (mkF m 6 #[.val (.ref a0), .val (.int (2 : Int32))] [(.int (31 : Int32)), (.int (-2 : Int32))])) (by intro t k; exact XS.bipush X0.here hx rfl (hb hby d7_4) k) ?_
  refine go (T' := s₁) (f' := (mkF m 7 #[.val (.ref a0), .val (.int (2 : Int32))] [(.int (1 : Int32))])) (by intro t k; exact XS.iushr X0.here hx rfl (hb hby d7_6) rfl k) ?_
  refine go (T' := s₁) (f' := (mkF m 8 #[.val (.ref a0), .val (.int (2 : Int32))] [(.int (1 : Int32))])) (by intro t k; exact XS.i2b X0.here hx rfl (hb hby d7_7) rfl k) ?_
  refine retZ X0 hx (t := .byte) Bd.returns (by simp) (hb hby d7_8) hlk (by decide) (by decide) ?_
  show Q7u Z a0 x0 x1 x2 x3 h0 n0 _ s₁.heap _
  rw [e0]
  have hv' : (nar .byte (1 : Int32)) = (1 : Int32) := by
    rfl
  have hv : (some (.int (nar .byte (1 : Int32))) : Option Value) = some (.int (1 : Int32)) := congrArg (fun z => (some (.int z) : Option Value)) hv'
  exact ⟨hv, N0, rfl⟩
theorem ef_3u (m : MethodId) (x0 : Addr) (x1 : Addr) : entryFrame m #[(.ref x0), (.ref x1), (.int (0 : Int32)), (.int (2 : Int32)), .null] 6 = mkF m 0 #[.val (.ref x0), .val (.ref x1), .val (.int (0 : Int32)), .val (.int (2 : Int32)), .val .null, .unset] [] := by first | (simp [entryFrame, mkF, argsToLocals, Value.category]; done) | rfl
def Q3u (Z : State) (a0 : Addr) (a1 : Addr) (cs : Int32) (c0 c1 : Int32) (h0 : Heap) (n0 : Nat) (v : Option Value) (h : Heap) (L : List Loc) : Prop := v = none ∧ Fr n0 L ∧ Keep h0 h [a0] ∧ ∃ b, h0.size ≤ b ∧ Fld Z h a0 "java/lang/String" "coder" "B" (.int (1 : Int32)) ∧ Fld Z h a0 "java/lang/String" "value" "[B" (.ref b) ∧ Ary Z h b .byte [(.int (nar .byte (((c0 >>> ((0 : Int32) &&& 31))).toInt8.toInt32))), (.int (nar .byte (((c0 >>> ((8 : Int32) &&& 31))).toInt8.toInt32))), (.int (nar .byte (((c1 >>> ((0 : Int32) &&& 31))).toInt8.toInt32))), (.int (nar .byte (((c1 >>> ((8 : Int32) &&& 31))).toInt8.toInt32)))]
set_option maxRecDepth 65536 in
set_option maxHeartbeats 40000000 in
theorem rm3u (l : Launch) (Z : State) (aw : Array Value) (hw : ∀ d ∈ tables_1, d.before aw Z = true) (ws : List Jvm.Cond) (a0 : Addr) (a1 : Addr) (cs : Int32) (c0 c1 : Int32) (h0 : Heap) (n0 : Nat) (Z0 : n0 ≤ h0.size) (O0 : Old Z n0 h0) (S_cs : Sta Z Z.heap "java/lang/String" "COMPACT_STRINGS" "Z" (.int cs)) (hcs : ¬ (cs = (0 : Int32))) (S_ad : Sta Z Z.heap "java/lang/StringUTF16" "$assertionsDisabled" "Z" (.int (1 : Int32))) (S_hi : Sta Z Z.heap "java/lang/StringUTF16" "HI_BYTE_SHIFT" "I" (.int (0 : Int32))) (S_lo : Sta Z Z.heap "java/lang/StringUTF16" "LO_BYTE_SHIFT" "I" (.int (8 : Int32))) (E_a0 : Exa Z h0 a0 "java/lang/String") (F_c : Fld Z h0 a0 "java/lang/String" "coder" "B" (.int (0 : Int32))) (F_v : Fld Z h0 a0 "java/lang/String" "value" "[B" .null) (g_a0 : n0 ≤ a0) (A_a1 : Ary Z h0 a1 .char [(.int c0), (.int c1)]) (n_01 : a0 ≠ a1) (hk0 : nar .char c0 = c0) (hu0 : (255 : Int32) < c0) :
    MetFree l (⟨"java/lang/String", "<init>", "([CIILjava/lang/Void;)V"⟩ : MethodName) (head1 (Jvm.Cond.code (⟨"java/lang/String", "<init>", "([CIILjava/lang/Void;)V"⟩ : MethodName) jdk_42_method_149_code 6 none :: ws) ({ frames := 4, cells := 2, slots := 6, locals := 57 } : Room)) (fun a U => a = #[(.ref a0), (.ref a1), (.int (0 : Int32)), (.int (2 : Int32)), .null] ∧ Z.Warmed39 U.vm ∧ U.heap = h0) (fun _ _ _ _ _ => True) (fun _ U o U' => ∃ v L, o = .returned v ∧ Q3u Z a0 a1 cs c0 c1 h0 n0 v U'.heap L ∧ FrameEnd U o U' L ({ frames := 4, cells := 2, slots := 6, locals := 57 } : Room).cells ({ frames := 4, cells := 2, slots := 6, locals := 57 } : Room).slots) := by
  refine MetFree.of_bodySF (plainFor_of_name pn_13) hisR ?_
  intro p e s m args below meth c s₁ Bd hml0 hP hK
  obtain ⟨rfl, hZ, hh⟩ := hP
  have hx := Bd.exec
  have hby := Bd.bytes
  have hml : c.maxLocals = 6 := hml0
  have hown : s.vm.findClass "java/lang/String" = some m.cls := findClass_of_methodNamed Bd.named
  have hnm := (name_of_methodNamed Bd.named Bd.method).1
  have hlk : meth.locks = false := BodyLoose.notSynchronized Bd
  have X0 : Stand p l e ({ frames := 4, cells := 2, slots := 6, locals := 57 } : Room) s m #[(.ref a0), (.ref a1), (.int (0 : Int32)), (.int (2 : Int32)), .null] below meth c s₁ [] 0 0 := Stand.of_body Bd
  have e0 : s₁.heap = h0 := by rw [← hh, Bd.state]; rfl
  have N0 := Fr.nil n0
  show Run p e s below (Q3u Z a0 a1 cs c0 c1 h0 n0) ({ frames := 4, cells := 2, slots := 6, locals := 57 } : Room).cells ({ frames := 4, cells := 2, slots := 6, locals := 57 } : Room).slots s₁ (entryFrame m #[(.ref a0), (.ref a1), (.int (0 : Int32)), (.int (2 : Int32)), .null] 6)
  rw [ef_3u]
  show Run _ _ _ _ _ _ _ s₁ (mkF m 0 #[.val (.ref a0), .val (.ref a1), .val (.int (0 : Int32)), .val (.int (2 : Int32)), .val .null, .unset] [])
  refine go (T' := s₁) (f' := (mkF m 1 #[.val (.ref a0), .val (.ref a1), .val (.int (0 : Int32)), .val (.int (2 : Int32)), .val .null, .unset] [(.ref a0)])) (by intro t k; exact XS.aloadN X0.here hx rfl (hb hby d3_0) rfl rfl k) ?_
  obtain ⟨T1, X1, e1, st1⟩ := initO X0 hx hZ hown (hw _ (List.mem_of_getElem? (i := 18) rfl)) (hw _ (List.mem_of_getElem? (i := 19) rfl)) (hw _ (List.mem_of_getElem? (i := 20) rfl)) e0 (g := (mkF m 1 #[.val (.ref a0), .val (.ref a1), .val (.int (0 : Int32)), .val (.int (2 : Int32)), .val .null, .unset] [(.ref a0)])) rfl (by rw [hml]; rfl) rfl (hb hby d3_1) (by decide) (W := 0) (by show 2 * 0 + _ ≤ _; exact Nat.le_of_eq rfl) (by decide)
  refine go st1 ?_
  show Run _ _ _ _ _ _ _ T1 (mkF m 4 #[.val (.ref a0), .val (.ref a1), .val (.int (0 : Int32)), .val (.int (2 : Int32)), .val .null, .unset] [])
  refine go (T' := T1) (f' := (mkF m 5 #[.val (.ref a0), .val (.ref a1), .val (.int (0 : Int32)), .val (.int (2 : Int32)), .val .null, .unset] [(.int (2 : Int32))])) (by intro t k; exact XS.iloadN X1.here hx rfl (hb hby d3_4) rfl k) ?_
  refine go (T' := T1) (f' := (mkF m 27 #[.val (.ref a0), .val (.ref a1), .val (.int (0 : Int32)), .val (.int (2 : Int32)), .val .null, .unset] [])) (by intro t k; exact XS.ifYes X1.here hx rfl (pc0 := 5) (pc' := 27) rfl (hb hby d3_5) rfl ((if0 _ _).trans (feq (by decide : ¬ ((2 : Int32) = (0 : Int32)))).2) (by decide) (by decide) k) ?_
  obtain ⟨T2, X2, e2, st2⟩ := getS2 X1 hx hZ hown (host := "") (Or.inl (hw _ (List.mem_of_getElem? (i := 21) rfl))) Via.refl e1 (S_cs.ext O0.2) (g := (mkF m 27 #[.val (.ref a0), .val (.ref a1), .val (.int (0 : Int32)), .val (.int (2 : Int32)), .val .null, .unset] [])) rfl (hb hby d3_27)
  refine go st2 ?_
  show Run _ _ _ _ _ _ _ T2 (mkF m 30 #[.val (.ref a0), .val (.ref a1), .val (.int (0 : Int32)), .val (.int (2 : Int32)), .val .null, .unset] [(.int cs)])
  refine go (T' := T2) (f' := (mkF m 33 #[.val (.ref a0), .val (.ref a1), .val (.int (0 : Int32)), .val (.int (2 : Int32)), .val .null, .unset] [])) (by intro t k; exact XS.ifNo X2.here hx rfl (hb hby d3_30) rfl ((if0 _ _).trans (feq (hcs : ¬ (cs = (0 : Int32)))).1) k) ?_
  refine go (T' := T2) (f' := (mkF m 34 #[.val (.ref a0), .val (.ref a1), .val (.int (0 : Int32)), .val (.int (2 : Int32)), .val .null, .unset] [(.ref a1)])) (by intro t k; exact XS.aloadN X2.here hx rfl (hb hby d3_33) rfl rfl k) ?_
  refine go (T' := T2) (f' := (mkF m 35 #[.val (.ref a0), .val (.ref a1), .val (.int (0 : Int32)), .val (.int (2 : Int32)), .val .null, .unset] [(.int (0 : Int32)), (.ref a1)])) (by intro t k; exact XS.iloadN X2.here hx rfl (hb hby d3_34) rfl k) ?_
  refine go (T' := T2) (f' := (mkF m 36 #[.val (.ref a0), .val (.ref a1), .val (.int (0 : Int32)), .val (.int (2 : Int32)), .val .null, .unset] [(.int (2 : Int32)), (.int (0 : Int32)), (.ref a1)])) (by intro t k; exact XS.iloadN X2.here hx rfl (hb hby d3_35) rfl k) ?_
  obtain ⟨_, _, ⟨T3, Lz3, kz3, nz3⟩, -, X3, ⟨Lc3, hQ3, lz3, yz3, zz3⟩, st3⟩ := Jvm.LawKit.callS X2 hx (y := (⟨"java/lang/StringUTF16", "compress", "([CII)[B"⟩ : MethodName)) hown (mvT hZ (hw _ (List.mem_of_getElem? (i := 22) rfl))) (mvT hZ (hw _ (List.mem_of_getElem? (i := 23) rfl))) (mvT hZ (hw _ (List.mem_of_getElem? (i := 24) rfl))) (mvT hZ (hw _ (List.mem_of_getElem? (i := 25) rfl))) (by decide) (backOf (W := 0) (rm5u l Z aw hw [] a1 c0 c1 h0 n0 Z0 O0 S_ad S_hi S_lo A_a1 hk0 hu0) hZ (hw _ (List.mem_of_getElem? (i := 25) rfl)) (hw _ (List.mem_of_getElem? (i := 24) rfl)) (by decide) (by decide)) (g := (mkF m 36 #[.val (.ref a0), .val (.ref a1), .val (.int (0 : Int32)), .val (.int (2 : Int32)), .val .null, .unset] [(.int (2 : Int32)), (.int (0 : Int32)), (.ref a1)])) rfl (by rw [hml]; rfl) (argsL := [(.ref a1), (.int (0 : Int32)), (.int (2 : Int32))]) (rest := []) (lenOf pd_285bCII295bB rfl) rfl (by show 2 * 0 + _ ≤ _; exact Nat.le_of_eq rfl) (hb hby d3_36) (fun _ _ => ⟨rfl, e2, (by decide : 0 + 2 ≤ _), (by decide : 0 + 6 ≤ _)⟩)
  dsimp only [Pt.U, Pt.locs, Pt.cells, Pt.slots] at X3 lz3 yz3 zz3 st3 hQ3
  subst lz3 yz3 zz3
  obtain ⟨r3, rfl, sz3, N3q, K3, Aq3⟩ := hQ3
  have ne_a0_r3 : a0 ≠ r3 := Nat.ne_of_lt (Nat.lt_of_lt_of_le E_a0.lt sz3)
  have ne_a1_r3 : a1 ≠ r3 := Nat.ne_of_lt (Nat.lt_of_lt_of_le A_a1.lt sz3)
  have ge_r3 : n0 ≤ r3 := Nat.le_trans Z0 sz3
  have sz_r3 : h0.size ≤ r3 := Nat.le_trans (Keep.refl h0 []).1 sz3
  have E3_a0 := Exa.keep E_a0 K3
  have F3_a0_coder := Fld.keep F_c K3 nin0
  have F3_a0_value := Fld.keep F_v K3 nin0
  have A3_a1 := Ary.keep A_a1 K3 nin0
  have O3 : Old Z n0 T3.heap := O0.keep K3 all0
  have Z3 : n0 ≤ T3.heap.size := Nat.le_trans Z0 K3.1
  have KK3 : Keep h0 T3.heap [a0] := (Keep.refl _ _).trans K3 all0
  have N3 := Fr.app N0 N3q
  refine go st3 ?_
  show Run _ _ _ _ _ _ _ T3 (mkF m 39 #[.val (.ref a0), .val (.ref a1), .val (.int (0 : Int32)), .val (.int (2 : Int32)), .val .null, .unset] [(.ref r3)])
  refine go (T' := T3) (f' := (mkF m 41 #[.val (.ref a0), .val (.ref a1), .val (.int (0 : Int32)), .val (.int (2 : Int32)), .val .null, .val (.ref r3)] [])) (by intro t k; exact XS.astore X3.here hx rfl (hb hby d3_39) rfl rfl (l' := #[.val (.ref a0), .val (.ref a1), .val (.int (0 : Int32)), .val (.int (2 : Int32)), .val .null, .val (.ref r3)]) rfl k) ?_
  refine go (T' := T3) (f' := (mkF m 42 #[.val (.ref a0), .val (.ref a1), .val (.int (0 : Int32)), .val (.int (2 : Int32)), .val .null, .val (.ref r3)] [(.ref a0)])) (by intro t k; exact XS.aloadN X3.here hx rfl (hb hby d3_41) rfl rfl k) ?_
  refine go (T' := T3) (f' := (mkF m 44 #[.val (.ref a0), .val (.ref a1), .val (.int (0 : Int32)), .val (.int (2 : Int32)), .val .null, .val (.ref r3)] [(.ref r3), (.ref a0)])) (by intro t k; exact XS.aload X3.here hx rfl (hb hby d3_42) rfl rfl k) ?_
  refine go (T' := T3) (f' := (mkF m 45 #[.val (.ref a0), .val (.ref a1), .val (.int (0 : Int32)), .val (.int (2 : Int32)), .val .null, .val (.ref r3)] [(.int (2 : Int32)), (.ref r3), (.ref a0)])) (by intro t k; exact XS.iloadN X3.here hx rfl (hb hby d3_44) rfl k) ?_
  obtain ⟨_, _, ⟨T4, Lz4, kz4, nz4⟩, -, X4, ⟨Lc4, hQ4, lz4, yz4, zz4⟩, st4⟩ := Jvm.LawKit.callS X3 hx (y := (⟨"java/lang/StringUTF16", "coderFromArrayLen", "([BI)B"⟩ : MethodName)) hown (mvT hZ (hw _ (List.mem_of_getElem? (i := 30) rfl))) (mvT hZ (hw _ (List.mem_of_getElem? (i := 31) rfl))) (mvT hZ (hw _ (List.mem_of_getElem? (i := 24) rfl))) (mvT hZ (hw _ (List.mem_of_getElem? (i := 32) rfl))) (by decide) (backOf (W := 1) (rm7u l Z aw hw [] r3 (nar .byte (((c0 >>> ((0 : Int32) &&& 31))).toInt8.toInt32)) (nar .byte (((c0 >>> ((8 : Int32) &&& 31))).toInt8.toInt32)) (nar .byte (((c1 >>> ((0 : Int32) &&& 31))).toInt8.toInt32)) (nar .byte (((c1 >>> ((8 : Int32) &&& 31))).toInt8.toInt32)) T3.heap n0 Z3 Aq3) hZ (hw _ (List.mem_of_getElem? (i := 32) rfl)) (hw _ (List.mem_of_getElem? (i := 24) rfl)) (by decide) (by decide)) (g := (mkF m 45 #[.val (.ref a0), .val (.ref a1), .val (.int (0 : Int32)), .val (.int (2 : Int32)), .val .null, .val (.ref r3)] [(.int (2 : Int32)), (.ref r3), (.ref a0)])) rfl (by rw [hml]; rfl) (argsL := [(.ref r3), (.int (2 : Int32))]) (rest := [(.ref a0)]) (lenOf pd_285bBI29B rfl) rfl (by show 2 * 0 + _ ≤ _; exact Nat.le_of_eq rfl) (hb hby d3_45) (fun _ _ => ⟨rfl, rfl, (by decide : 2 + 0 ≤ _), (by decide : 6 + 0 ≤ _)⟩)
  dsimp only [Pt.U, Pt.locs, Pt.cells, Pt.slots] at X4 lz4 yz4 zz4 st4 hQ4
  subst lz4 yz4 zz4
  obtain ⟨rfl, N4q, e4⟩ := hQ4
  have N4 := Fr.app N3 N4q
  refine go st4 ?_
  show Run _ _ _ _ _ _ _ T4 (mkF m 48 #[.val (.ref a0), .val (.ref a1), .val (.int (0 : Int32)), .val (.int (2 : Int32)), .val .null, .val (.ref r3)] [(.int (1 : Int32)), (.ref a0)])
  obtain ⟨T5, h5, X5, e5, W5, st5⟩ := putFN X4 hx hZ hown (hw _ (List.mem_of_getElem? (i := 33) rfl)) Via.refl e4 F3_a0_coder E3_a0 (Or.inr ⟨(hw _ (List.mem_of_getElem? (i := 34) rfl)), rfl, hnm⟩) (hw _ (List.mem_of_getElem? (i := 9) rfl)) (ty := .byte) (v' := (.int (1 : Int32))) (by decide) rfl rfl (g := (mkF m 48 #[.val (.ref a0), .val (.ref a1), .val (.int (0 : Int32)), .val (.int (2 : Int32)), .val .null, .val (.ref r3)] [(.int (1 : Int32)), (.ref a0)])) rfl rfl (hb hby d3_48)
  have K5 : Keep T3.heap h5 [a0] := Keep.of_wr W5
  have F5_a0_coder : Fld Z h5 a0 "java/lang/String" "coder" "B" (.int (1 : Int32)) := F3_a0_coder.same W5
  have F5_a0_value := Fld.other W5 F3_a0_value (Or.inr (slot_ne (Or.inr (hw _ (List.mem_of_getElem? (i := 36) rfl))) (Or.inr (hw _ (List.mem_of_getElem? (i := 34) rfl))) (by decide) (t := (.array .byte)) (t' := .byte) (by decide) (by decide)))
  have N5 := Fr.snoc X5 N4 g_a0
  have E5_a0 := Exa.keep E3_a0 K5
  have A5_a1 := Ary.keep A3_a1 K5 (ninS (Ne.symm n_01) nin0)
  have A5_r3 := Ary.keep Aq3 K5 (ninS (Ne.symm ne_a0_r3) nin0)
  have O5 : Old Z n0 h5 := O3.keep K5 (allS g_a0 all0)
  have Z5 : n0 ≤ h5.size := Nat.le_trans Z3 K5.1
  have KK5 : Keep h0 h5 [a0] := KK3.trans K5 (allS (Or.inl (List.mem_of_getElem? (i := 0) rfl)) all0)
  refine go st5 ?_
  show Run _ _ _ _ _ _ _ T5 (mkF m 51 #[.val (.ref a0), .val (.ref a1), .val (.int (0 : Int32)), .val (.int (2 : Int32)), .val .null, .val (.ref r3)] [])
  refine go (T' := T5) (f' := (mkF m 52 #[.val (.ref a0), .val (.ref a1), .val (.int (0 : Int32)), .val (.int (2 : Int32)), .val .null, .val (.ref r3)] [(.ref a0)])) (by intro t k; exact XS.aloadN X5.here hx rfl (hb hby d3_51) rfl rfl k) ?_
  refine go (T' := T5) (f' := (mkF m 54 #[.val (.ref a0), .val (.ref a1), .val (.int (0 : Int32)), .val (.int (2 : Int32)), .val .null, .val (.ref r3)] [(.ref r3), (.ref a0)])) (by intro t k; exact XS.aload X5.here hx rfl (hb hby d3_52) rfl rfl k) ?_
  obtain ⟨T6, h6, X6, e6, W6, st6⟩ := putF X5 hx hZ hown (host := "") (Or.inl (hw _ (List.mem_of_getElem? (i := 35) rfl))) Via.refl e5 F5_a0_value E5_a0 (Or.inr ⟨(hw _ (List.mem_of_getElem? (i := 36) rfl)), rfl, hnm⟩) (hw _ (List.mem_of_getElem? (i := 9) rfl)) (ty := (.array .byte)) (by decide) rfl rfl (g := (mkF m 54 #[.val (.ref a0), .val (.ref a1), .val (.int (0 : Int32)), .val (.int (2 : Int32)), .val .null, .val (.ref r3)] [(.ref r3), (.ref a0)])) rfl rfl (hb hby d3_54)
  have K6 : Keep h5 h6 [a0] := Keep.of_wr W6
  have F6_a0_coder := Fld.other W6 F5_a0_coder (Or.inr (slot_ne (Or.inr (hw _ (List.mem_of_getElem? (i := 34) rfl))) (Or.inr (hw _ (List.mem_of_getElem? (i := 36) rfl))) (by decide) (t := .byte) (t' := (.array .byte)) (by decide) (by decide)))
  have F6_a0_value : Fld Z h6 a0 "java/lang/String" "value" "[B" (.ref r3) := F5_a0_value.same W6
  have N6 := Fr.snoc X6 N5 g_a0
  have E6_a0 := Exa.keep E5_a0 K6
  have A6_a1 := Ary.keep A5_a1 K6 (ninS (Ne.symm n_01) nin0)
  have A6_r3 := Ary.keep A5_r3 K6 (ninS (Ne.symm ne_a0_r3) nin0)
  have O6 : Old Z n0 h6 := O5.keep K6 (allS g_a0 all0)
  have Z6 : n0 ≤ h6.size := Nat.le_trans Z5 K6.1
  have KK6 : Keep h0 h6 [a0] := KK5.trans K6 (allS (Or.inl (List.mem_of_getElem? (i := 0) rfl)) all0)
  refine go st6 ?_
  show Run _ _ _ _ _ _ _ T6 (mkF m 57 #[.val (.ref a0), .val (.ref a1), .val (.int (0 : Int32)), .val (.int (2 : Int32)), .val .null, .val (.ref r3)] [])
  refine retV X6 hx Bd.returns (hb hby d3_57) hlk (by decide) (by decide) ?_
  show Q3u Z a0 a1 cs c0 c1 h0 n0 _ T6.heap _
  rw [e6]
  exact ⟨rfl, N6, KK6, ⟨_, sz_r3, F6_a0_coder, F6_a0_value, A6_r3⟩⟩
theorem ef_2u (m : MethodId) (x0 : Addr) (x1 : Addr) : entryFrame m #[(.ref x0), (.ref x1)] 2 = mkF m 0 #[.val (.ref x0), .val (.ref x1)] [] := by first | (simp [entryFrame, mkF, argsToLocals, Value.category]; done) | rfl
def Q2u (Z : State) (a0 : Addr) (a1 : Addr) (cs : Int32) (c0 c1 : Int32) (h0 : Heap) (n0 : Nat) (v : Option Value) (h : Heap) (L : List Loc) : Prop := v = none ∧ Fr n0 L ∧ Keep h0 h [a0] ∧ ∃ b, h0.size ≤ b ∧ Fld Z h a0 "java/lang/String" "coder" "B" (.int (1 : Int32)) ∧ Fld Z h a0 "java/lang/String" "value" "[B" (.ref b) ∧ Ary Z h b .byte [(.int (nar .byte (((c0 >>> ((0 : Int32) &&& 31))).toInt8.toInt32))), (.int (nar .byte (((c0 >>> ((8 : Int32) &&& 31))).toInt8.toInt32))), (.int (nar .byte (((c1 >>> ((0 : Int32) &&& 31))).toInt8.toInt32))), (.int (nar .byte (((c1 >>> ((8 : Int32) &&& 31))).toInt8.toInt32)))]
set_option maxRecDepth 65536 in
set_option maxHeartbeats 40000000 in
theorem rm2u (l : Launch) (Z : State) (aw : Array Value) (hw : ∀ d ∈ tables_1, d.before aw Z = true) (ws : List Jvm.Cond) (a0 : Addr) (a1 : Addr) (cs : Int32) (c0 c1 : Int32) (h0 : Heap) (n0 : Nat) (Z0 : n0 ≤ h0.size) (O0 : Old Z n0 h0) (S_cs : Sta Z Z.heap "java/lang/String" "COMPACT_STRINGS" "Z" (.int cs)) (hcs : ¬ (cs = (0 : Int32))) (S_ad : Sta Z Z.heap "java/lang/StringUTF16" "$assertionsDisabled" "Z" (.int (1 : Int32))) (S_hi : Sta Z Z.heap "java/lang/StringUTF16" "HI_BYTE_SHIFT" "I" (.int (0 : Int32))) (S_lo : Sta Z Z.heap "java/lang/StringUTF16" "LO_BYTE_SHIFT" "I" (.int (8 : Int32))) (E_a0 : Exa Z h0 a0 "java/lang/String") (F_c : Fld Z h0 a0 "java/lang/String" "coder" "B" (.int (0 : Int32))) (F_v : Fld Z h0 a0 "java/lang/String" "value" "[B" .null) (g_a0 : n0 ≤ a0) (A_a1 : Ary Z h0 a1 .char [(.int c0), (.int c1)]) (n_01 : a0 ≠ a1) (hk0 : nar .char c0 = c0) (hu0 : (255 : Int32) < c0) :
    MetFree l (⟨"java/lang/String", "<init>", "([C)V"⟩ : MethodName) (head1 (Jvm.Cond.code (⟨"java/lang/String", "<init>", "([C)V"⟩ : MethodName) jdk_42_method_3_code 2 none :: ws) ({ frames := 5, cells := 2, slots := 6, locals := 74 } : Room)) (fun a U => a = #[(.ref a0), (.ref a1)] ∧ Z.Warmed39 U.vm ∧ U.heap = h0) (fun _ _ _ _ _ => True) (fun _ U o U' => ∃ v L, o = .returned v ∧ Q2u Z a0 a1 cs c0 c1 h0 n0 v U'.heap L ∧ FrameEnd U o U' L ({ frames := 5, cells := 2, slots := 6, locals := 74 } : Room).cells ({ frames := 5, cells := 2, slots := 6, locals := 74 } : Room).slots) := by
  refine MetFree.of_bodySF (plainFor_of_name pn_13) hisR ?_
  intro p e s m args below meth c s₁ Bd hml0 hP hK
  obtain ⟨rfl, hZ, hh⟩ := hP
  have hx := Bd.exec
  have hby := Bd.bytes
  have hml : c.maxLocals = 2 := hml0
  have hown : s.vm.findClass "java/lang/String" = some m.cls := findClass_of_methodNamed Bd.named
  have hnm := (name_of_methodNamed Bd.named Bd.method).1
  have hlk : meth.locks = false := BodyLoose.notSynchronized Bd
  have X0 : Stand p l e ({ frames := 5, cells := 2, slots := 6, locals := 74 } : Room) s m #[(.ref a0), (.ref a1)] below meth c s₁ [] 0 0 := Stand.of_body Bd
  have e0 : s₁.heap = h0 := by rw [← hh, Bd.state]; rfl
  have N0 := Fr.nil n0
  show Run p e s below (Q2u Z a0 a1 cs c0 c1 h0 n0) ({ frames := 5, cells := 2, slots := 6, locals := 74 } : Room).cells ({ frames := 5, cells := 2, slots := 6, locals := 74 } : Room).slots s₁ (entryFrame m #[(.ref a0), (.ref a1)] 2)
  rw [ef_2u]
  show Run _ _ _ _ _ _ _ s₁ (mkF m 0 #[.val (.ref a0), .val (.ref a1)] [])
  refine go (T' := s₁) (f' := (mkF m 1 #[.val (.ref a0), .val (.ref a1)] [(.ref a0)])) (by intro t k; exact XS.aloadN X0.here hx rfl (hb hby d2_0) rfl rfl k) ?_
  refine go (T' := s₁) (f' := (mkF m 2 #[.val (.ref a0), .val (.ref a1)] [(.ref a1), (.ref a0)])) (by intro t k; exact XS.aloadN X0.here hx rfl (hb hby d2_1) rfl rfl k) ?_
  refine go (T' := s₁) (f' := (mkF m 3 #[.val (.ref a0), .val (.ref a1)] [(.int (0 : Int32)), (.ref a1), (.ref a0)])) (by intro t k; exact XS.iconst X0.here hx rfl (hb hby d2_2) k) ?_
  refine go (T' := s₁) (f' := (mkF m 4 #[.val (.ref a0), .val (.ref a1)] [(.ref a1), (.int (0 : Int32)), (.ref a1), (.ref a0)])) (by intro t k; exact XS.aloadN X0.here hx rfl (hb hby d2_3) rfl rfl k) ?_
  refine go (T' := s₁) (f' := (mkF m 5 #[.val (.ref a0), .val (.ref a1)] [(.int (2 : Int32)), (.int (0 : Int32)), (.ref a1), (.ref a0)])) (by intro t k; exact alen X0 hx hZ e0 A_a1 (z := (2 : Int32)) rfl (g := (mkF m 4 #[.val (.ref a0), .val (.ref a1)] [(.ref a1), (.int (0 : Int32)), (.ref a1), (.ref a0)])) rfl rfl (hb hby d2_4) _ k) ?_
  refine go (T' := s₁) (f' := (mkF m 6 #[.val (.ref a0), .val (.ref a1)] [.null, (.int (2 : Int32)), (.int (0 : Int32)), (.ref a1), (.ref a0)])) (by intro t k; exact XS.aconstNull X0.here hx rfl (hb hby d2_5) k) ?_
  obtain ⟨_, _, ⟨T1, Lz1, kz1, nz1⟩, -, X1, ⟨Lc1, hQ1, lz1, yz1, zz1⟩, st1⟩ := X0.specialBack hx (y := (⟨"java/lang/String", "<init>", "([CIILjava/lang/Void;)V"⟩ : MethodName)) rfl hown (mvT hZ (hw _ (List.mem_of_getElem? (i := 14) rfl))) (mvT hZ (hw _ (List.mem_of_getElem? (i := 15) rfl))) (mvT hZ (hw _ (List.mem_of_getElem? (i := 17) rfl))) (by decide) (backOf (W := 0) (rm3u l Z aw hw [] a0 a1 cs c0 c1 h0 n0 Z0 O0 S_cs hcs S_ad S_hi S_lo E_a0 F_c F_v g_a0 A_a1 n_01 hk0 hu0) hZ (hw _ (List.mem_of_getElem? (i := 17) rfl)) (hw _ (List.mem_of_getElem? (i := 10) rfl)) (by decide) (by decide)) (g := (mkF m 6 #[.val (.ref a0), .val (.ref a1)] [.null, (.int (2 : Int32)), (.int (0 : Int32)), (.ref a1), (.ref a0)])) rfl (by rw [hml]; rfl) (Steps.refl _) (a := a0) (argsL := [(.ref a1), (.int (0 : Int32)), (.int (2 : Int32)), .null]) (rest := []) (lenOf pd_285bCIILjava2flang2fVoid3b29V rfl) rfl (by show 2 * 0 + _ ≤ _; exact Nat.le_of_eq rfl) (hb hby d2_6) (fun _ _ => ⟨rfl, e0, (by decide : 0 + 2 ≤ _), (by decide : 0 + 6 ≤ _)⟩)
  dsimp only [Pt.U, Pt.locs, Pt.cells, Pt.slots] at X1 lz1 yz1 zz1 st1 hQ1
  subst lz1 yz1 zz1
  obtain ⟨rfl, N1q, K1, sb1, zb1, Fc1, Fv1, Ab1⟩ := hQ1
  have ne_a0_sb1 : a0 ≠ sb1 := Nat.ne_of_lt (Nat.lt_of_lt_of_le E_a0.lt zb1)
  have ne_a1_sb1 : a1 ≠ sb1 := Nat.ne_of_lt (Nat.lt_of_lt_of_le A_a1.lt zb1)
  have ge_sb1 : n0 ≤ sb1 := Nat.le_trans Z0 zb1
  have sz_sb1 : h0.size ≤ sb1 := Nat.le_trans (Keep.refl h0 []).1 zb1
  have E1_a0 := Exa.keep E_a0 K1
  have A1_a1 := Ary.keep A_a1 K1 (ninS (Ne.symm n_01) nin0)
  have O1 : Old Z n0 T1.heap := O0.keep K1 (allS g_a0 all0)
  have Z1 : n0 ≤ T1.heap.size := Nat.le_trans Z0 K1.1
  have KK1 : Keep h0 T1.heap [a0] := (Keep.refl _ _).trans K1 (allS (Or.inl (List.mem_of_getElem? (i := 0) rfl)) all0)
  have N1 := Fr.app N0 N1q
  refine go (fun _ k => st1.trans k) ?_
  show Run _ _ _ _ _ _ _ T1 (mkF m 9 #[.val (.ref a0), .val (.ref a1)] [])
  refine retV X1 hx Bd.returns (hb hby d2_9) hlk (by decide) (by decide) ?_
  show Q2u Z a0 a1 cs c0 c1 h0 n0 _ T1.heap _
  exact ⟨rfl, N1, KK1, ⟨_, sz_sb1, Fc1, Fv1, Ab1⟩⟩
theorem d22_0 : decode jdk_41_method_12_code 0 = .ok (.iload_n 0, 1) := by decide +kernel
theorem d22_1 : decode jdk_41_method_12_code 1 = .ok (.ifCond .lt 13, 3) := by decide +kernel
theorem d22_4 : decode jdk_41_method_12_code 4 = .ok (.iload_n 0, 1) := by decide +kernel
theorem d22_5 : decode jdk_41_method_12_code 5 = .ok (.iload_n 1, 1) := by decide +kernel
theorem d22_6 : decode jdk_41_method_12_code 6 = .ok (.if_icmp .gt 8, 3) := by decide +kernel
theorem d22_9 : decode jdk_41_method_12_code 9 = .ok (.iload_n 1, 1) := by decide +kernel
theorem d22_10 : decode jdk_41_method_12_code 10 = .ok (.iload_n 2, 1) := by decide +kernel
theorem d22_11 : decode jdk_41_method_12_code 11 = .ok (.if_icmp .le 11, 3) := by decide +kernel
theorem d22_22 : decode jdk_41_method_12_code 22 = .ok (.iload_n 0, 1) := by decide +kernel
theorem d22_23 : decode jdk_41_method_12_code 23 = .ok (.ireturn, 1) := by decide +kernel
theorem ef_22p0 (m : MethodId)  : entryFrame m #[(.int (0 : Int32)), (.int (0 : Int32)), (.int (2 : Int32)), .null] 4 = mkF m 0 #[.val (.int (0 : Int32)), .val (.int (0 : Int32)), .val (.int (2 : Int32)), .val .null] [] := by first | (simp [entryFrame, mkF, argsToLocals, Value.category]; done) | rfl
def Q22p0 (Z : State)  (h0 : Heap) (n0 : Nat) (v : Option Value) (h : Heap) (L : List Loc) : Prop := v = some (.int (0 : Int32)) ∧ Fr n0 L ∧ h = h0
set_option maxRecDepth 65536 in
set_option maxHeartbeats 40000000 in
theorem rm22p0 (l : Launch) (Z : State) (aw : Array Value) (hw : ∀ d ∈ tables_1, d.before aw Z = true) (ws : List Jvm.Cond)  (h0 : Heap) (n0 : Nat) (Z0 : n0 ≤ h0.size) :
    MetFree l (⟨"jdk/internal/util/Preconditions", "checkFromToIndex", "(IIILjava/util/function/BiFunction;)I"⟩ : MethodName) (head1 (Jvm.Cond.code (⟨"jdk/internal/util/Preconditions", "checkFromToIndex", "(IIILjava/util/function/BiFunction;)I"⟩ : MethodName) jdk_41_method_12_code 4 (some .int) :: ws) ({ frames := 0, cells := 0, slots := 0, locals := 0 } : Room)) (fun a U => a = #[(.int (0 : Int32)), (.int (0 : Int32)), (.int (2 : Int32)), .null] ∧ Z.Warmed39 U.vm ∧ U.heap = h0) (fun _ _ _ _ _ => True) (fun _ U o U' => ∃ v L, o = .returned v ∧ Q22p0 Z  h0 n0 v U'.heap L ∧ FrameEnd U o U' L ({ frames := 0, cells := 0, slots := 0, locals := 0 } : Room).cells ({ frames := 0, cells := 0, slots := 0, locals := 0 } : Room).slots) := by
  refine MetFree.of_bodySF (plainFor_of_name pn_18) hisR ?_
  intro p e s m args below meth c s₁ Bd hml0 hP hK
  obtain ⟨rfl, hZ, hh⟩ := hP
  have hx := Bd.exec
  have hby := Bd.bytes
  have hml : c.maxLocals = 4 := hml0
  have hown : s.vm.findClass "jdk/internal/util/Preconditions" = some m.cls := findClass_of_methodNamed Bd.named
  have hnm := (name_of_methodNamed Bd.named Bd.method).1
  have hlk : meth.locks = false := BodyLoose.notSynchronized Bd
  have X0 : Stand p l e ({ frames := 0, cells := 0, slots := 0, locals := 0 } : Room) s m #[(.int (0 : Int32)), (.int (0 : Int32)), (.int (2 : Int32)), .null] below meth c s₁ [] 0 0 := Stand.of_body Bd
  have e0 : s₁.heap = h0 := by rw [← hh, Bd.state]; rfl
  have N0 := Fr.nil n0
  show Run p e s below (Q22p0 Z  h0 n0) ({ frames := 0, cells := 0, slots := 0, locals := 0 } : Room).cells ({ frames := 0, cells := 0, slots := 0, locals := 0 } : Room).slots s₁ (entryFrame m #[(.int (0 : Int32)), (.int (0 : Int32)), (.int (2 : Int32)), .null] 4)
  rw [ef_22p0]
  show Run _ _ _ _ _ _ _ s₁ (mkF m 0 #[.val (.int (0 : Int32)), .val (.int (0 : Int32)), .val (.int (2 : Int32)), .val .null] [])
  refine go (T' := s₁) (f' := (mkF m 1 #[.val (.int (0 : Int32)), .val (.int (0 : Int32)), .val (.int (2 : Int32)), .val .null] [(.int (0 : Int32))])) (by intro t k; exact XS.iloadN X0.here hx rfl (hb hby d22_0) rfl k) ?_
  refine go (T' := s₁) (f' := (mkF m 4 #[.val (.int (0 : Int32)), .val (.int (0 : Int32)), .val (.int (2 : Int32)), .val .null] [])) (by intro t k; exact XS.ifNo X0.here hx rfl (hb hby d22_1) rfl ((if0 _ _).trans (flt (by decide : ¬ ((0 : Int32) < (0 : Int32)))).1) k) ?_
  refine go (T' := s₁) (f' := (mkF m 5 #[.val (.int (0 : Int32)), .val (.int (0 : Int32)), .val (.int (2 : Int32)), .val .null] [(.int (0 : Int32))])) (by intro t k; exact XS.iloadN X0.here hx rfl (hb hby d22_4) rfl k) ?_
  refine go (T' := s₁) (f' := (mkF m 6 #[.val (.int (0 : Int32)), .val (.int (0 : Int32)), .val (.int (2 : Int32)), .val .null] [(.int (0 : Int32)), (.int (0 : Int32))])) (by intro t k; exact XS.iloadN X0.here hx rfl (hb hby d22_5) rfl k) ?_
  refine go (T' := s₁) (f' := (mkF m 9 #[.val (.int (0 : Int32)), .val (.int (0 : Int32)), .val (.int (2 : Int32)), .val .null] [])) (by intro t k; exact XS.icmpNo X0.here hx rfl (hb hby d22_6) rfl (flt (by decide : ¬ ((0 : Int32) < (0 : Int32)))).2.2.1 k) ?_
  refine go (T' := s₁) (f' := (mkF m 10 #[.val (.int (0 : Int32)), .val (.int (0 : Int32)), .val (.int (2 : Int32)), .val .null] [(.int (0 : Int32))])) (by intro t k; exact XS.iloadN X0.here hx rfl (hb hby d22_9) rfl k) ?_
  refine go (T' := s₁) (f' := (mkF m 11 #[.val (.int (0 : Int32)), .val (.int (0 : Int32)), .val (.int (2 : Int32)), .val .null] [(.int (2 : Int32)), (.int (0 : Int32))])) (by intro t k; exact XS.iloadN X0.here hx rfl (hb hby d22_10) rfl k) ?_
  refine go (T' := s₁) (f' := (mkF m 22 #[.val (.int (0 : Int32)), .val (.int (0 : Int32)), .val (.int (2 : Int32)), .val .null] [])) (by intro t k; exact XS.icmpYes X0.here hx rfl (pc0 := 11) (pc' := 22) rfl (hb hby d22_11) rfl (flt (by decide : ¬ ((2 : Int32) < (0 : Int32)))).2.2.2 (by decide) (by decide) k) ?_
  refine go (T' := s₁) (f' := (mkF m 23 #[.val (.int (0 : Int32)), .val (.int (0 : Int32)), .val (.int (2 : Int32)), .val .null] [(.int (0 : Int32))])) (by intro t k; exact XS.iloadN X0.here hx rfl (hb hby d22_22) rfl k) ?_
  refine retW X0 hx (t := .int) Bd.returns rfl (Or.inl ⟨rfl, Or.inl rfl, _, rfl⟩) (hb hby d22_23) hlk (by decide) (by decide) ?_
  show Q22p0 Z  h0 n0 _ s₁.heap _
  rw [e0]
  have hv : (some (.int (0 : Int32)) : Option Value) = some (.int (0 : Int32)) := rfl
  exact ⟨hv, N0, rfl⟩
theorem ef_22p1 (m : MethodId)  : entryFrame m #[(.int (0 : Int32)), (.int (1 : Int32)), (.int (2 : Int32)), .null] 4 = mkF m 0 #[.val (.int (0 : Int32)), .val (.int (1 : Int32)), .val (.int (2 : Int32)), .val .null] [] := by first | (simp [entryFrame, mkF, argsToLocals, Value.category]; done) | rfl
def Q22p1 (Z : State)  (h0 : Heap) (n0 : Nat) (v : Option Value) (h : Heap) (L : List Loc) : Prop := v = some (.int (0 : Int32)) ∧ Fr n0 L ∧ h = h0
set_option maxRecDepth 65536 in
set_option maxHeartbeats 40000000 in
theorem rm22p1 (l : Launch) (Z : State) (aw : Array Value) (hw : ∀ d ∈ tables_1, d.before aw Z = true) (ws : List Jvm.Cond)  (h0 : Heap) (n0 : Nat) (Z0 : n0 ≤ h0.size) :
    MetFree l (⟨"jdk/internal/util/Preconditions", "checkFromToIndex", "(IIILjava/util/function/BiFunction;)I"⟩ : MethodName) (head1 (Jvm.Cond.code (⟨"jdk/internal/util/Preconditions", "checkFromToIndex", "(IIILjava/util/function/BiFunction;)I"⟩ : MethodName) jdk_41_method_12_code 4 (some .int) :: ws) ({ frames := 0, cells := 0, slots := 0, locals := 0 } : Room)) (fun a U => a = #[(.int (0 : Int32)), (.int (1 : Int32)), (.int (2 : Int32)), .null] ∧ Z.Warmed39 U.vm ∧ U.heap = h0) (fun _ _ _ _ _ => True) (fun _ U o U' => ∃ v L, o = .returned v ∧ Q22p1 Z  h0 n0 v U'.heap L ∧ FrameEnd U o U' L ({ frames := 0, cells := 0, slots := 0, locals := 0 } : Room).cells ({ frames := 0, cells := 0, slots := 0, locals := 0 } : Room).slots) := by
  refine MetFree.of_bodySF (plainFor_of_name pn_18) hisR ?_
  intro p e s m args below meth c s₁ Bd hml0 hP hK
  obtain ⟨rfl, hZ, hh⟩ := hP
  have hx := Bd.exec
  have hby := Bd.bytes
  have hml : c.maxLocals = 4 := hml0
  have hown : s.vm.findClass "jdk/internal/util/Preconditions" = some m.cls := findClass_of_methodNamed Bd.named
  have hnm := (name_of_methodNamed Bd.named Bd.method).1
  have hlk : meth.locks = false := BodyLoose.notSynchronized Bd
  have X0 : Stand p l e ({ frames := 0, cells := 0, slots := 0, locals := 0 } : Room) s m #[(.int (0 : Int32)), (.int (1 : Int32)), (.int (2 : Int32)), .null] below meth c s₁ [] 0 0 := Stand.of_body Bd
  have e0 : s₁.heap = h0 := by rw [← hh, Bd.state]; rfl
  have N0 := Fr.nil n0
  show Run p e s below (Q22p1 Z  h0 n0) ({ frames := 0, cells := 0, slots := 0, locals := 0 } : Room).cells ({ frames := 0, cells := 0, slots := 0, locals := 0 } : Room).slots s₁ (entryFrame m #[(.int (0 : Int32)), (.int (1 : Int32)), (.int (2 : Int32)), .null] 4)
  rw [ef_22p1]
  show Run _ _ _ _ _ _ _ s₁ (mkF m 0 #[.val (.int (0 : Int32)), .val (.int (1 : Int32)), .val (.int (2 : Int32)), .val .null] [])
  refine go (T' := s₁) (f' := (mkF m 1 #[.val (.int (0 : Int32)), .val (.int (1 : Int32)), .val (.int (2 : Int32)), .val .null] [(.int (0 : Int32))])) (by intro t k; exact XS.iloadN X0.here hx rfl (hb hby d22_0) rfl k) ?_
  refine go (T' := s₁) (f' := (mkF m 4 #[.val (.int (0 : Int32)), .val (.int (1 : Int32)), .val (.int (2 : Int32)), .val .null] [])) (by intro t k; exact XS.ifNo X0.here hx rfl (hb hby d22_1) rfl ((if0 _ _).trans (flt (by decide : ¬ ((0 : Int32) < (0 : Int32)))).1) k) ?_
  refine go (T' := s₁) (f' := (mkF m 5 #[.val (.int (0 : Int32)), .val (.int (1 : Int32)), .val (.int (2 : Int32)), .val .null] [(.int (0 : Int32))])) (by intro t k; exact XS.iloadN X0.here hx rfl (hb hby d22_4) rfl k) ?_
  refine go (T' := s₁) (f' := (mkF m 6 #[.val (.int (0 : Int32)), .val (.int (1 : Int32)), .val (.int (2 : Int32)), .val .null] [(.int (1 : Int32)), (.int (0 : Int32))])) (by intro t k; exact XS.iloadN X0.here hx rfl (hb hby d22_5) rfl k) ?_
  refine go (T' := s₁) (f' := (mkF m 9 #[.val (.int (0 : Int32)), .val (.int (1 : Int32)), .val (.int (2 : Int32)), .val .null] [])) (by intro t k; exact XS.icmpNo X0.here hx rfl (hb hby d22_6) rfl (flt (by decide : ¬ ((1 : Int32) < (0 : Int32)))).2.2.1 k) ?_
  refine go (T' := s₁) (f' := (mkF m 10 #[.val (.int (0 : Int32)), .val (.int (1 : Int32)), .val (.int (2 : Int32)), .val .null] [(.int (1 : Int32))])) (by intro t k; exact XS.iloadN X0.here hx rfl (hb hby d22_9) rfl k) ?_
  refine go (T' := s₁) (f' := (mkF m 11 #[.val (.int (0 : Int32)), .val (.int (1 : Int32)), .val (.int (2 : Int32)), .val .null] [(.int (2 : Int32)), (.int (1 : Int32))])) (by intro t k; exact XS.iloadN X0.here hx rfl (hb hby d22_10) rfl k) ?_
  refine go (T' := s₁) (f' := (mkF m 22 #[.val (.int (0 : Int32)), .val (.int (1 : Int32)), .val (.int (2 : Int32)), .val .null] [])) (by intro t k; exact XS.icmpYes X0.here hx rfl (pc0 := 11) (pc' := 22) rfl (hb hby d22_11) rfl (flt (by decide : ¬ ((2 : Int32) < (1 : Int32)))).2.2.2 (by decide) (by decide) k) ?_
  refine go (T' := s₁) (f' := (mkF m 23 #[.val (.int (0 : Int32)), .val (.int (1 : Int32)), .val (.int (2 : Int32)), .val .null] [(.int (0 : Int32))])) (by intro t k; exact XS.iloadN X0.here hx rfl (hb hby d22_22) rfl k) ?_
  refine retW X0 hx (t := .int) Bd.returns rfl (Or.inl ⟨rfl, Or.inl rfl, _, rfl⟩) (hb hby d22_23) hlk (by decide) (by decide) ?_
  show Q22p1 Z  h0 n0 _ s₁.heap _
  rw [e0]
  have hv : (some (.int (0 : Int32)) : Option Value) = some (.int (0 : Int32)) := rfl
  exact ⟨hv, N0, rfl⟩
theorem d21_0 : decode jdk_31_method_18_code 0 = .ok (.iload_n 0, 1) := by decide +kernel
theorem d21_1 : decode jdk_31_method_18_code 1 = .ok (.iload_n 1, 1) := by decide +kernel
theorem d21_2 : decode jdk_31_method_18_code 2 = .ok (.iload_n 2, 1) := by decide +kernel
theorem d21_3 : decode jdk_31_method_18_code 3 = .ok (.aconst_null, 1) := by decide +kernel
theorem d21_4 : decode jdk_31_method_18_code 4 = .ok (.invokestatic 111, 3) := by decide +kernel
theorem d21_7 : decode jdk_31_method_18_code 7 = .ok (.ireturn, 1) := by decide +kernel
theorem pd_28IIILjava2futil2ffunction2fBiFunction3b29I : parseMethodDescriptor "(IIILjava/util/function/BiFunction;)I" = some ⟨[.int, .int, .int, (.object "java/util/function/BiFunction")], some .int⟩ := by decide +kernel
theorem pn_21 : plainName "java/util/Objects" = true := by first | (simp [plainName, overriddenIn]; done) | decide +kernel
theorem ef_21p0 (m : MethodId)  : entryFrame m #[(.int (0 : Int32)), (.int (0 : Int32)), (.int (2 : Int32))] 3 = mkF m 0 #[.val (.int (0 : Int32)), .val (.int (0 : Int32)), .val (.int (2 : Int32))] [] := by first | (simp [entryFrame, mkF, argsToLocals, Value.category]; done) | rfl
def Q21p0 (Z : State)  (h0 : Heap) (n0 : Nat) (v : Option Value) (h : Heap) (L : List Loc) : Prop := v = some (.int (0 : Int32)) ∧ Fr n0 L ∧ h = h0
set_option maxRecDepth 65536 in
set_option maxHeartbeats 40000000 in
theorem rm21p0 (l : Launch) (Z : State) (aw : Array Value) (hw : ∀ d ∈ tables_1, d.before aw Z = true) (ws : List Jvm.Cond)  (h0 : Heap) (n0 : Nat) (Z0 : n0 ≤ h0.size) :
    MetFree l (⟨"java/util/Objects", "checkFromToIndex", "(III)I"⟩ : MethodName) (head1 (Jvm.Cond.code (⟨"java/util/Objects", "checkFromToIndex", "(III)I"⟩ : MethodName) jdk_31_method_18_code 3 (some .int) :: ws) ({ frames := 1, cells := 0, slots := 0, locals := 15 } : Room)) (fun a U => a = #[(.int (0 : Int32)), (.int (0 : Int32)), (.int (2 : Int32))] ∧ Z.Warmed39 U.vm ∧ U.heap = h0) (fun _ _ _ _ _ => True) (fun _ U o U' => ∃ v L, o = .returned v ∧ Q21p0 Z  h0 n0 v U'.heap L ∧ FrameEnd U o U' L ({ frames := 1, cells := 0, slots := 0, locals := 15 } : Room).cells ({ frames := 1, cells := 0, slots := 0, locals := 15 } : Room).slots) := by
  refine MetFree.of_bodySF (plainFor_of_name pn_21) hisR ?_
  intro p e s m args below meth c s₁ Bd hml0 hP hK
  obtain ⟨rfl, hZ, hh⟩ := hP
  have hx := Bd.exec
  have hby := Bd.bytes
  have hml : c.maxLocals = 3 := hml0
  have hown : s.vm.findClass "java/util/Objects" = some m.cls := findClass_of_methodNamed Bd.named
  have hnm := (name_of_methodNamed Bd.named Bd.method).1
  have hlk : meth.locks = false := BodyLoose.notSynchronized Bd
  have X0 : Stand p l e ({ frames := 1, cells := 0, slots := 0, locals := 15 } : Room) s m #[(.int (0 : Int32)), (.int (0 : Int32)), (.int (2 : Int32))] below meth c s₁ [] 0 0 := Stand.of_body Bd
  have e0 : s₁.heap = h0 := by rw [← hh, Bd.state]; rfl
  have N0 := Fr.nil n0
  show Run p e s below (Q21p0 Z  h0 n0) ({ frames := 1, cells := 0, slots := 0, locals := 15 } : Room).cells ({ frames := 1, cells := 0, slots := 0, locals := 15 } : Room).slots s₁ (entryFrame m #[(.int (0 : Int32)), (.int (0 : Int32)), (.int (2 : Int32))] 3)
  rw [ef_21p0]
  show Run _ _ _ _ _ _ _ s₁ (mkF m 0 #[.val (.int (0 : Int32)), .val (.int (0 : Int32)), .val (.int (2 : Int32))] [])
  refine go (T' := s₁) (f' := (mkF m 1 #[.val (.int (0 : Int32)), .val (.int (0 : Int32)), .val (.int (2 : Int32))] [(.int (0 : Int32))])) (by intro t k; exact XS.iloadN X0.here hx rfl (hb hby d21_0) rfl k) ?_
  refine go (T' := s₁) (f' := (mkF m 2 #[.val (.int (0 : Int32)), .val (.int (0 : Int32)), .val (.int (2 : Int32))] [(.int (0 : Int32)), (.int (0 : Int32))])) (by intro t k; exact XS.iloadN X0.here hx rfl (hb hby d21_1) rfl k) ?_
  refine go (T' := s₁) (f' := (mkF m 3 #[.val (.int (0 : Int32)), .val (.int (0 : Int32)), .val (.int (2 : Int32))] [(.int (2 : Int32)), (.int (0 : Int32)), (.int (0 : Int32))])) (by intro t k; exact XS.iloadN X0.here hx rfl (hb hby d21_2) rfl k) ?_
  refine go (T' := s₁) (f' := (mkF m 4 #[.val (.int (0 : Int32)), .val (.int (0 : Int32)), .val (.int (2 : Int32))] [.null, (.int (2 : Int32)), (.int (0 : Int32)), (.int (0 : Int32))])) (by intro t k; exact XS.aconstNull X0.here hx rfl (hb hby d21_3) k) ?_
  obtain ⟨_, _, ⟨T1, Lz1, kz1, nz1⟩, -, X1, ⟨Lc1, hQ1, lz1, yz1, zz1⟩, st1⟩ := Jvm.LawKit.callS X0 hx (y := (⟨"jdk/internal/util/Preconditions", "checkFromToIndex", "(IIILjava/util/function/BiFunction;)I"⟩ : MethodName)) hown (mvT hZ (hw _ (List.mem_of_getElem? (i := 108) rfl))) (mvT hZ (hw _ (List.mem_of_getElem? (i := 109) rfl))) (mvT hZ (hw _ (List.mem_of_getElem? (i := 89) rfl))) (mvT hZ (hw _ (List.mem_of_getElem? (i := 110) rfl))) (by decide) (backOf (W := 0) (rm22p0 l Z aw hw []   h0 n0 Z0 ) hZ (hw _ (List.mem_of_getElem? (i := 110) rfl)) (hw _ (List.mem_of_getElem? (i := 89) rfl)) (by decide) (by decide)) (g := (mkF m 4 #[.val (.int (0 : Int32)), .val (.int (0 : Int32)), .val (.int (2 : Int32))] [.null, (.int (2 : Int32)), (.int (0 : Int32)), (.int (0 : Int32))])) rfl (by rw [hml]; rfl) (argsL := [(.int (0 : Int32)), (.int (0 : Int32)), (.int (2 : Int32)), .null]) (rest := []) (lenOf pd_28IIILjava2futil2ffunction2fBiFunction3b29I rfl) rfl (by show 2 * 0 + _ ≤ _; exact Nat.le_of_eq rfl) (hb hby d21_4) (fun _ _ => ⟨rfl, e0, (by decide : 0 + 0 ≤ _), (by decide : 0 + 0 ≤ _)⟩)
  dsimp only [Pt.U, Pt.locs, Pt.cells, Pt.slots] at X1 lz1 yz1 zz1 st1 hQ1
  subst lz1 yz1 zz1
  obtain ⟨rfl, N1q, e1⟩ := hQ1
  have N1 := Fr.app N0 N1q
  refine go st1 ?_
  show Run _ _ _ _ _ _ _ T1 (mkF m 7 #[.val (.int (0 : Int32)), .val (.int (0 : Int32)), .val (.int (2 : Int32))] [(.int (0 : Int32))])
  refine retW X1 hx (t := .int) Bd.returns rfl (Or.inl ⟨rfl, Or.inl rfl, _, rfl⟩) (hb hby d21_7) hlk (by decide) (by decide) ?_
  show Q21p0 Z  h0 n0 _ T1.heap _
  rw [e1]
  have hv : (some (.int (0 : Int32)) : Option Value) = some (.int (0 : Int32)) := rfl
  exact ⟨hv, N1, rfl⟩
theorem ef_21p1 (m : MethodId)  : entryFrame m #[(.int (0 : Int32)), (.int (1 : Int32)), (.int (2 : Int32))] 3 = mkF m 0 #[.val (.int (0 : Int32)), .val (.int (1 : Int32)), .val (.int (2 : Int32))] [] := by first | (simp [entryFrame, mkF, argsToLocals, Value.category]; done) | rfl
def Q21p1 (Z : State)  (h0 : Heap) (n0 : Nat) (v : Option Value) (h : Heap) (L : List Loc) : Prop := v = some (.int (0 : Int32)) ∧ Fr n0 L ∧ h = h0
set_option maxRecDepth 65536 in
set_option maxHeartbeats 40000000 in
theorem rm21p1 (l : Launch) (Z : State) (aw : Array Value) (hw : ∀ d ∈ tables_1, d.before aw Z = true) (ws : List Jvm.Cond)  (h0 : Heap) (n0 : Nat) (Z0 : n0 ≤ h0.size) :
    MetFree l (⟨"java/util/Objects", "checkFromToIndex", "(III)I"⟩ : MethodName) (head1 (Jvm.Cond.code (⟨"java/util/Objects", "checkFromToIndex", "(III)I"⟩ : MethodName) jdk_31_method_18_code 3 (some .int) :: ws) ({ frames := 1, cells := 0, slots := 0, locals := 15 } : Room)) (fun a U => a = #[(.int (0 : Int32)), (.int (1 : Int32)), (.int (2 : Int32))] ∧ Z.Warmed39 U.vm ∧ U.heap = h0) (fun _ _ _ _ _ => True) (fun _ U o U' => ∃ v L, o = .returned v ∧ Q21p1 Z  h0 n0 v U'.heap L ∧ FrameEnd U o U' L ({ frames := 1, cells := 0, slots := 0, locals := 15 } : Room).cells ({ frames := 1, cells := 0, slots := 0, locals := 15 } : Room).slots) := by
  refine MetFree.of_bodySF (plainFor_of_name pn_21) hisR ?_
  intro p e s m args below meth c s₁ Bd hml0 hP hK
  obtain ⟨rfl, hZ, hh⟩ := hP
  have hx := Bd.exec
  have hby := Bd.bytes
  have hml : c.maxLocals = 3 := hml0
  have hown : s.vm.findClass "java/util/Objects" = some m.cls := findClass_of_methodNamed Bd.named
  have hnm := (name_of_methodNamed Bd.named Bd.method).1
  have hlk : meth.locks = false := BodyLoose.notSynchronized Bd
  have X0 : Stand p l e ({ frames := 1, cells := 0, slots := 0, locals := 15 } : Room) s m #[(.int (0 : Int32)), (.int (1 : Int32)), (.int (2 : Int32))] below meth c s₁ [] 0 0 := Stand.of_body Bd
  have e0 : s₁.heap = h0 := by rw [← hh, Bd.state]; rfl
  have N0 := Fr.nil n0
  show Run p e s below (Q21p1 Z  h0 n0) ({ frames := 1, cells := 0, slots := 0, locals := 15 } : Room).cells ({ frames := 1, cells := 0, slots := 0, locals := 15 } : Room).slots s₁ (entryFrame m #[(.int (0 : Int32)), (.int (1 : Int32)), (.int (2 : Int32))] 3)
  rw [ef_21p1]
  show Run _ _ _ _ _ _ _ s₁ (mkF m 0 #[.val (.int (0 : Int32)), .val (.int (1 : Int32)), .val (.int (2 : Int32))] [])
  refine go (T' := s₁) (f' := (mkF m 1 #[.val (.int (0 : Int32)), .val (.int (1 : Int32)), .val (.int (2 : Int32))] [(.int (0 : Int32))])) (by intro t k; exact XS.iloadN X0.here hx rfl (hb hby d21_0) rfl k) ?_
  refine go (T' := s₁) (f' := (mkF m 2 #[.val (.int (0 : Int32)), .val (.int (1 : Int32)), .val (.int (2 : Int32))] [(.int (1 : Int32)), (.int (0 : Int32))])) (by intro t k; exact XS.iloadN X0.here hx rfl (hb hby d21_1) rfl k) ?_
  refine go (T' := s₁) (f' := (mkF m 3 #[.val (.int (0 : Int32)), .val (.int (1 : Int32)), .val (.int (2 : Int32))] [(.int (2 : Int32)), (.int (1 : Int32)), (.int (0 : Int32))])) (by intro t k; exact XS.iloadN X0.here hx rfl (hb hby d21_2) rfl k) ?_
  refine go (T' := s₁) (f' := (mkF m 4 #[.val (.int (0 : Int32)), .val (.int (1 : Int32)), .val (.int (2 : Int32))] [.null, (.int (2 : Int32)), (.int (1 : Int32)), (.int (0 : Int32))])) (by intro t k; exact XS.aconstNull X0.here hx rfl (hb hby d21_3) k) ?_
  obtain ⟨_, _, ⟨T1, Lz1, kz1, nz1⟩, -, X1, ⟨Lc1, hQ1, lz1, yz1, zz1⟩, st1⟩ := Jvm.LawKit.callS X0 hx (y := (⟨"jdk/internal/util/Preconditions", "checkFromToIndex", "(IIILjava/util/function/BiFunction;)I"⟩ : MethodName)) hown (mvT hZ (hw _ (List.mem_of_getElem? (i := 108) rfl))) (mvT hZ (hw _ (List.mem_of_getElem? (i := 109) rfl))) (mvT hZ (hw _ (List.mem_of_getElem? (i := 89) rfl))) (mvT hZ (hw _ (List.mem_of_getElem? (i := 110) rfl))) (by decide) (backOf (W := 0) (rm22p1 l Z aw hw []   h0 n0 Z0 ) hZ (hw _ (List.mem_of_getElem? (i := 110) rfl)) (hw _ (List.mem_of_getElem? (i := 89) rfl)) (by decide) (by decide)) (g := (mkF m 4 #[.val (.int (0 : Int32)), .val (.int (1 : Int32)), .val (.int (2 : Int32))] [.null, (.int (2 : Int32)), (.int (1 : Int32)), (.int (0 : Int32))])) rfl (by rw [hml]; rfl) (argsL := [(.int (0 : Int32)), (.int (1 : Int32)), (.int (2 : Int32)), .null]) (rest := []) (lenOf pd_28IIILjava2futil2ffunction2fBiFunction3b29I rfl) rfl (by show 2 * 0 + _ ≤ _; exact Nat.le_of_eq rfl) (hb hby d21_4) (fun _ _ => ⟨rfl, e0, (by decide : 0 + 0 ≤ _), (by decide : 0 + 0 ≤ _)⟩)
  dsimp only [Pt.U, Pt.locs, Pt.cells, Pt.slots] at X1 lz1 yz1 zz1 st1 hQ1
  subst lz1 yz1 zz1
  obtain ⟨rfl, N1q, e1⟩ := hQ1
  have N1 := Fr.app N0 N1q
  refine go st1 ?_
  show Run _ _ _ _ _ _ _ T1 (mkF m 7 #[.val (.int (0 : Int32)), .val (.int (1 : Int32)), .val (.int (2 : Int32))] [(.int (0 : Int32))])
  refine retW X1 hx (t := .int) Bd.returns rfl (Or.inl ⟨rfl, Or.inl rfl, _, rfl⟩) (hb hby d21_7) hlk (by decide) (by decide) ?_
  show Q21p1 Z  h0 n0 _ T1.heap _
  rw [e1]
  have hv : (some (.int (0 : Int32)) : Option Value) = some (.int (0 : Int32)) := rfl
  exact ⟨hv, N1, rfl⟩
theorem d32_0 : decode jdk_52_method_11_code 0 = .ok (.getstatic 44, 3) := by decide +kernel
theorem d32_3 : decode jdk_52_method_11_code 3 = .ok (.ifCond .ne 16, 3) := by decide +kernel
theorem d32_19 : decode jdk_52_method_11_code 19 = .ok (.iload_n 2, 1) := by decide +kernel
theorem d32_20 : decode jdk_52_method_11_code 20 = .ok (.iload_n 1, 1) := by decide +kernel
theorem d32_21 : decode jdk_52_method_11_code 21 = .ok (.isub, 1) := by decide +kernel
theorem d32_22 : decode jdk_52_method_11_code 22 = .ok (.istore 4, 2) := by decide +kernel
theorem d32_24 : decode jdk_52_method_11_code 24 = .ok (.iload_n 1, 1) := by decide +kernel
theorem d32_25 : decode jdk_52_method_11_code 25 = .ok (.istore 5, 2) := by decide +kernel
theorem d32_27 : decode jdk_52_method_11_code 27 = .ok (.iload_n 3, 1) := by decide +kernel
theorem d32_28 : decode jdk_52_method_11_code 28 = .ok (.ifCond .eq 16, 3) := by decide +kernel
theorem d32_44 : decode jdk_52_method_11_code 44 = .ok (.iload 5, 2) := by decide +kernel
theorem d32_46 : decode jdk_52_method_11_code 46 = .ok (.iload_n 2, 1) := by decide +kernel
theorem d32_47 : decode jdk_52_method_11_code 47 = .ok (.iconst 1, 1) := by decide +kernel
theorem d32_48 : decode jdk_52_method_11_code 48 = .ok (.isub, 1) := by decide +kernel
theorem d32_49 : decode jdk_52_method_11_code 49 = .ok (.if_icmp .ge 39, 3) := by decide +kernel
theorem d32_88 : decode jdk_52_method_11_code 88 = .ok (.iload 4, 2) := by decide +kernel
theorem d32_90 : decode jdk_52_method_11_code 90 = .ok (.ireturn, 1) := by decide +kernel
theorem ef_32 (m : MethodId) (x0 : Addr) : entryFrame m #[(.ref x0), (.int (0 : Int32)), (.int (0 : Int32)), (.int (0 : Int32))] 6 = mkF m 0 #[.val (.ref x0), .val (.int (0 : Int32)), .val (.int (0 : Int32)), .val (.int (0 : Int32)), .unset, .unset] [] := by first | (simp [entryFrame, mkF, argsToLocals, Value.category]; done) | rfl
def Q32 (Z : State) (a0 : Addr) (h0 : Heap) (n0 : Nat) (v : Option Value) (h : Heap) (L : List Loc) : Prop := v = some (.int (0 : Int32)) ∧ Fr n0 L ∧ h = h0
set_option maxRecDepth 65536 in
set_option maxHeartbeats 40000000 in
theorem rm32 (l : Launch) (Z : State) (aw : Array Value) (hw : ∀ d ∈ tables_1, d.before aw Z = true) (ws : List Jvm.Cond) (a0 : Addr) (h0 : Heap) (n0 : Nat) (Z0 : n0 ≤ h0.size) (O0 : Old Z n0 h0) (S_ad : Sta Z Z.heap "java/lang/StringUTF16" "$assertionsDisabled" "Z" (.int (1 : Int32))) :
    MetFree l (⟨"java/lang/StringUTF16", "codePointCount", "([BIIZ)I"⟩ : MethodName) (head1 (Jvm.Cond.code (⟨"java/lang/StringUTF16", "codePointCount", "([BIIZ)I"⟩ : MethodName) jdk_52_method_11_code 6 (some .int) :: ws) ({ frames := 0, cells := 0, slots := 0, locals := 0 } : Room)) (fun a U => a = #[(.ref a0), (.int (0 : Int32)), (.int (0 : Int32)), (.int (0 : Int32))] ∧ Z.Warmed39 U.vm ∧ U.heap = h0) (fun _ _ _ _ _ => True) (fun _ U o U' => ∃ v L, o = .returned v ∧ Q32 Z a0 h0 n0 v U'.heap L ∧ FrameEnd U o U' L ({ frames := 0, cells := 0, slots := 0, locals := 0 } : Room).cells ({ frames := 0, cells := 0, slots := 0, locals := 0 } : Room).slots) := by
  refine MetFree.of_bodySF (plainFor_of_name pn_6) hisR ?_
  intro p e s m args below meth c s₁ Bd hml0 hP hK
  obtain ⟨rfl, hZ, hh⟩ := hP
  have hx := Bd.exec
  have hby := Bd.bytes
  have hml : c.maxLocals = 6 := hml0
  have hown : s.vm.findClass "java/lang/StringUTF16" = some m.cls := findClass_of_methodNamed Bd.named
  have hnm := (name_of_methodNamed Bd.named Bd.method).1
  have hlk : meth.locks = false := BodyLoose.notSynchronized Bd
  have X0 : Stand p l e ({ frames := 0, cells := 0, slots := 0, locals := 0 } : Room) s m #[(.ref a0), (.int (0 : Int32)), (.int (0 : Int32)), (.int (0 : Int32))] below meth c s₁ [] 0 0 := Stand.of_body Bd
  have e0 : s₁.heap = h0 := by rw [← hh, Bd.state]; rfl
  have N0 := Fr.nil n0
  show Run p e s below (Q32 Z a0 h0 n0) ({ frames := 0, cells := 0, slots := 0, locals := 0 } : Room).cells ({ frames := 0, cells := 0, slots := 0, locals := 0 } : Room).slots s₁ (entryFrame m #[(.ref a0), (.int (0 : Int32)), (.int (0 : Int32)), (.int (0 : Int32))] 6)
  rw [ef_32]
  show Run _ _ _ _ _ _ _ s₁ (mkF m 0 #[.val (.ref a0), .val (.int (0 : Int32)), .val (.int (0 : Int32)), .val (.int (0 : Int32)), .unset, .unset] [])
  obtain ⟨T1, X1, e1, st1⟩ := getS2 X0 hx hZ hown (host := "") (Or.inl (hw _ (List.mem_of_getElem? (i := 124) rfl))) Via.refl e0 (S_ad.ext O0.2) (g := (mkF m 0 #[.val (.ref a0), .val (.int (0 : Int32)), .val (.int (0 : Int32)), .val (.int (0 : Int32)), .unset, .unset] [])) rfl (hb hby d32_0)
  refine go st1 ?_
  show Run _ _ _ _ _ _ _ T1 (mkF m 3 #[.val (.ref a0), .val (.int (0 : Int32)), .val (.int (0 : Int32)), .val (.int (0 : Int32)), .unset, .unset] [(.int (1 : Int32))])
  refine go (T' := T1) (f' := (mkF m 19 #[.val (.ref a0), .val (.int (0 : Int32)), .val (.int (0 : Int32)), .val (.int (0 : Int32)), .unset, .unset] [])) (by intro t k; exact XS.ifYes X1.here hx rfl (pc0 := 3) (pc' := 19) rfl (hb hby d32_3) rfl ((if0 _ _).trans (feq (by decide : ¬ ((1 : Int32) = (0 : Int32)))).2) (by decide) (by decide) k) ?_
  refine go (T' := T1) (f' := (mkF m 20 #[.val (.ref a0), .val (.int (0 : Int32)), .val (.int (0 : Int32)), .val (.int (0 : Int32)), .unset, .unset] [(.int (0 : Int32))])) (by intro t k; exact XS.iloadN X1.here hx rfl (hb hby d32_19) rfl k) ?_
  refine go (T' := T1) (f' := (mkF m 21 #[.val (.ref a0), .val (.int (0 : Int32)), .val (.int (0 : Int32)), .val (.int (0 : Int32)), .unset, .unset] [(.int (0 : Int32)), (.int (0 : Int32))])) (by intro t k; exact XS.iloadN X1.here hx rfl (hb hby d32_20) rfl k) ?_
  refine go (T' := T1) (f' := (mkF m 22 #[.val (.ref a0), .val (.int (0 : Int32)), .val (.int (0 : Int32)), .val (.int (0 : Int32)), .unset, .unset] [(.int (0 : Int32))])) (by intro t k; exact XS.isub X1.here hx rfl (hb hby d32_21) rfl k) ?_
  refine go (T' := T1) (f' := (mkF m 24 #[.val (.ref a0), .val (.int (0 : Int32)), .val (.int (0 : Int32)), .val (.int (0 : Int32)), .val (.int (0 : Int32)), .unset] [])) (by intro t k; exact XS.istore X1.here hx rfl (hb hby d32_22) rfl (l' := #[.val (.ref a0), .val (.int (0 : Int32)), .val (.int (0 : Int32)), .val (.int (0 : Int32)), .val (.int (0 : Int32)), .unset]) rfl k) ?_
  refine go (T' := T1) (f' := (mkF m 25 #[.val (.ref a0), .val (.int (0 : Int32)), .val (.int (0 : Int32)), .val (.int (0 : Int32)), .val (.int (0 : Int32)), .unset] [(.int (0 : Int32))])) (by intro t k; exact XS.iloadN X1.here hx rfl (hb hby d32_24) rfl k) ?_
  refine go (T' := T1) (f' := (mkF m 27 #[.val (.ref a0), .val (.int (0 : Int32)), .val (.int (0 : Int32)), .val (.int (0 : Int32)), .val (.int (0 : Int32)), .val (.int (0 : Int32))] [])) (by intro t k; exact XS.istore X1.here hx rfl (hb hby d32_25) rfl (l' := #[.val (.ref a0), .val (.int (0 : Int32)), .val (.int (0 : Int32)), .val (.int (0 : Int32)), .val (.int (0 : Int32)), .val (.int (0 : Int32))]) rfl k) ?_
  refine go (T' := T1) (f' := (mkF m 28 #[.val (.ref a0), .val (.int (0 : Int32)), .val (.int (0 : Int32)), .val (.int (0 : Int32)), .val (.int (0 : Int32)), .val (.int (0 : Int32))] [(.int (0 : Int32))])) (by intro t k; exact XS.iloadN X1.here hx rfl (hb hby d32_27) rfl k) ?_
  refine go (T' := T1) (f' := (mkF m 44 #[.val (.ref a0), .val (.int (0 : Int32)), .val (.int (0 : Int32)), .val (.int (0 : Int32)), .val (.int (0 : Int32)), .val (.int (0 : Int32))] [])) (by intro t k; exact XS.ifYes X1.here hx rfl (pc0 := 28) (pc' := 44) rfl (hb hby d32_28) rfl ((if0 _ _).trans (teq (rfl : (0 : Int32) = (0 : Int32))).1) (by decide) (by decide) k) ?_
  refine go (T' := T1) (f' := (mkF m 46 #[.val (.ref a0), .val (.int (0 : Int32)), .val (.int (0 : Int32)), .val (.int (0 : Int32)), .val (.int (0 : Int32)), .val (.int (0 : Int32))] [(.int (0 : Int32))])) (by intro t k; exact XS.iload X1.here hx rfl (hb hby d32_44) rfl k) ?_
  refine go (T' := T1) (f' := (mkF m 47 #[.val (.ref a0), .val (.int (0 : Int32)), .val (.int (0 : Int32)), .val (.int (0 : Int32)), .val (.int (0 : Int32)), .val (.int (0 : Int32))] [(.int (0 : Int32)), (.int (0 : Int32))])) (by intro t k; exact XS.iloadN X1.here hx rfl (hb hby d32_46) rfl k) ?_
  refine go (T' := T1) (f' := (mkF m 48 #[.val (.ref a0), .val (.int (0 : Int32)), .val (.int (0 : Int32)), .val (.int (0 : Int32)), .val (.int (0 : Int32)), .val (.int (0 : Int32))] [(.int (1 : Int32)), (.int (0 : Int32)), (.int (0 : Int32))])) (by intro t k; exact XS.iconst X1.here hx rfl (hb hby d32_47) k) ?_
  refine go (T' := T1) (f' := (mkF m 49 #[.val (.ref a0), .val (.int (0 : Int32)), .val (.int (0 : Int32)), .val (.int (0 : Int32)), .val (.int (0 : Int32)), .val (.int (0 : Int32))] [(.int (-1 : Int32)), (.int (0 : Int32))])) (by intro t k; exact XS.isub X1.here hx rfl (hb hby d32_48) rfl k) ?_
  refine go (T' := T1) (f' := (mkF m 88 #[.val (.ref a0), .val (.int (0 : Int32)), .val (.int (0 : Int32)), .val (.int (0 : Int32)), .val (.int (0 : Int32)), .val (.int (0 : Int32))] [])) (by intro t k; exact XS.icmpYes X1.here hx rfl (pc0 := 49) (pc' := 88) rfl (hb hby d32_49) rfl (flt (by decide : ¬ ((0 : Int32) < (-1 : Int32)))).2.1 (by decide) (by decide) k) ?_
  refine go (T' := T1) (f' := (mkF m 90 #[.val (.ref a0), .val (.int (0 : Int32)), .val (.int (0 : Int32)), .val (.int (0 : Int32)), .val (.int (0 : Int32)), .val (.int (0 : Int32))] [(.int (0 : Int32))])) (by intro t k; exact XS.iload X1.here hx rfl (hb hby d32_88) rfl k) ?_
  refine retW X1 hx (t := .int) Bd.returns rfl (Or.inl ⟨rfl, Or.inl rfl, _, rfl⟩) (hb hby d32_90) hlk (by decide) (by decide) ?_
  show Q32 Z a0 h0 n0 _ T1.heap _
  rw [e1]
  have hv : (some (.int (0 : Int32)) : Option Value) = some (.int (0 : Int32)) := rfl
  exact ⟨hv, N0, rfl⟩
theorem d31_0 : decode jdk_52_method_12_code 0 = .ok (.aload_n 0, 1) := by decide +kernel
theorem d31_1 : decode jdk_52_method_12_code 1 = .ok (.iload_n 1, 1) := by decide +kernel
theorem d31_2 : decode jdk_52_method_12_code 2 = .ok (.iload_n 2, 1) := by decide +kernel
theorem d31_3 : decode jdk_52_method_12_code 3 = .ok (.iconst 0, 1) := by decide +kernel
theorem d31_4 : decode jdk_52_method_12_code 4 = .ok (.invokestatic 100, 3) := by decide +kernel
theorem d31_7 : decode jdk_52_method_12_code 7 = .ok (.ireturn, 1) := by decide +kernel
theorem pd_285bBIIZ29I : parseMethodDescriptor "([BIIZ)I" = some ⟨[(.array .byte), .int, .int, .boolean], some .int⟩ := by decide +kernel
theorem ef_31 (m : MethodId) (x0 : Addr) : entryFrame m #[(.ref x0), (.int (0 : Int32)), (.int (0 : Int32))] 3 = mkF m 0 #[.val (.ref x0), .val (.int (0 : Int32)), .val (.int (0 : Int32))] [] := by first | (simp [entryFrame, mkF, argsToLocals, Value.category]; done) | rfl
def Q31 (Z : State) (a0 : Addr) (h0 : Heap) (n0 : Nat) (v : Option Value) (h : Heap) (L : List Loc) : Prop := v = some (.int (0 : Int32)) ∧ Fr n0 L ∧ h = h0
set_option maxRecDepth 65536 in
set_option maxHeartbeats 40000000 in
theorem rm31 (l : Launch) (Z : State) (aw : Array Value) (hw : ∀ d ∈ tables_1, d.before aw Z = true) (ws : List Jvm.Cond) (a0 : Addr) (h0 : Heap) (n0 : Nat) (Z0 : n0 ≤ h0.size) (O0 : Old Z n0 h0) (S_ad : Sta Z Z.heap "java/lang/StringUTF16" "$assertionsDisabled" "Z" (.int (1 : Int32))) :
    MetFree l (⟨"java/lang/StringUTF16", "codePointCount", "([BII)I"⟩ : MethodName) (head1 (Jvm.Cond.code (⟨"java/lang/StringUTF16", "codePointCount", "([BII)I"⟩ : MethodName) jdk_52_method_12_code 3 (some .int) :: ws) ({ frames := 1, cells := 0, slots := 0, locals := 17 } : Room)) (fun a U => a = #[(.ref a0), (.int (0 : Int32)), (.int (0 : Int32))] ∧ Z.Warmed39 U.vm ∧ U.heap = h0) (fun _ _ _ _ _ => True) (fun _ U o U' => ∃ v L, o = .returned v ∧ Q31 Z a0 h0 n0 v U'.heap L ∧ FrameEnd U o U' L ({ frames := 1, cells := 0, slots := 0, locals := 17 } : Room).cells ({ frames := 1, cells := 0, slots := 0, locals := 17 } : Room).slots) := by
  refine MetFree.of_bodySF (plainFor_of_name pn_6) hisR ?_
  intro p e s m args below meth c s₁ Bd hml0 hP hK
  obtain ⟨rfl, hZ, hh⟩ := hP
  have hx := Bd.exec
  have hby := Bd.bytes
  have hml : c.maxLocals = 3 := hml0
  have hown : s.vm.findClass "java/lang/StringUTF16" = some m.cls := findClass_of_methodNamed Bd.named
  have hnm := (name_of_methodNamed Bd.named Bd.method).1
  have hlk : meth.locks = false := BodyLoose.notSynchronized Bd
  have X0 : Stand p l e ({ frames := 1, cells := 0, slots := 0, locals := 17 } : Room) s m #[(.ref a0), (.int (0 : Int32)), (.int (0 : Int32))] below meth c s₁ [] 0 0 := Stand.of_body Bd
  have e0 : s₁.heap = h0 := by rw [← hh, Bd.state]; rfl
  have N0 := Fr.nil n0
  show Run p e s below (Q31 Z a0 h0 n0) ({ frames := 1, cells := 0, slots := 0, locals := 17 } : Room).cells ({ frames := 1, cells := 0, slots := 0, locals := 17 } : Room).slots s₁ (entryFrame m #[(.ref a0), (.int (0 : Int32)), (.int (0 : Int32))] 3)
  rw [ef_31]
  show Run _ _ _ _ _ _ _ s₁ (mkF m 0 #[.val (.ref a0), .val (.int (0 : Int32)), .val (.int (0 : Int32))] [])
  refine go (T' := s₁) (f' := (mkF m 1 #[.val (.ref a0), .val (.int (0 : Int32)), .val (.int (0 : Int32))] [(.ref a0)])) (by intro t k; exact XS.aloadN X0.here hx rfl (hb hby d31_0) rfl rfl k) ?_
  refine go (T' := s₁) (f' := (mkF m 2 #[.val (.ref a0), .val (.int (0 : Int32)), .val (.int (0 : Int32))] [(.int (0 : Int32)), (.ref a0)])) (by intro t k; exact XS.iloadN X0.here hx rfl (hb hby d31_1) rfl k) ?_
  refine go (T' := s₁) (f' := (mkF m 3 #[.val (.ref a0), .val (.int (0 : Int32)), .val (.int (0 : Int32))] [(.int (0 : Int32)), (.int (0 : Int32)), (.ref a0)])) (by intro t k; exact XS.iloadN X0.here hx rfl (hb hby d31_2) rfl k) ?_
  refine go (T' := s₁) (f' := (mkF m 4 #[.val (.ref a0), .val (.int (0 : Int32)), .val (.int (0 : Int32))] [(.int (0 : Int32)), (.int (0 : Int32)), (.int (0 : Int32)), (.ref a0)])) (by intro t k; exact XS.iconst X0.here hx rfl (hb hby d31_3) k) ?_
  obtain ⟨_, _, ⟨T1, Lz1, kz1, nz1⟩, -, X1, ⟨Lc1, hQ1, lz1, yz1, zz1⟩, st1⟩ := Jvm.LawKit.callS X0 hx (y := (⟨"java/lang/StringUTF16", "codePointCount", "([BIIZ)I"⟩ : MethodName)) hown (mvT hZ (hw _ (List.mem_of_getElem? (i := 143) rfl))) (mvT hZ (hw _ (List.mem_of_getElem? (i := 144) rfl))) (mvT hZ (hw _ (List.mem_of_getElem? (i := 24) rfl))) (mvT hZ (hw _ (List.mem_of_getElem? (i := 145) rfl))) (by decide) (backOf (W := 0) (rm32 l Z aw hw [] a0  h0 n0 Z0 O0 S_ad) hZ (hw _ (List.mem_of_getElem? (i := 145) rfl)) (hw _ (List.mem_of_getElem? (i := 24) rfl)) (by decide) (by decide)) (g := (mkF m 4 #[.val (.ref a0), .val (.int (0 : Int32)), .val (.int (0 : Int32))] [(.int (0 : Int32)), (.int (0 : Int32)), (.int (0 : Int32)), (.ref a0)])) rfl (by rw [hml]; rfl) (argsL := [(.ref a0), (.int (0 : Int32)), (.int (0 : Int32)), (.int (0 : Int32))]) (rest := []) (lenOf pd_285bBIIZ29I rfl) rfl (by show 2 * 0 + _ ≤ _; exact Nat.le_of_eq rfl) (hb hby d31_4) (fun _ _ => ⟨rfl, e0, (by decide : 0 + 0 ≤ _), (by decide : 0 + 0 ≤ _)⟩)
  dsimp only [Pt.U, Pt.locs, Pt.cells, Pt.slots] at X1 lz1 yz1 zz1 st1 hQ1
  subst lz1 yz1 zz1
  obtain ⟨rfl, N1q, e1⟩ := hQ1
  have N1 := Fr.app N0 N1q
  refine go st1 ?_
  show Run _ _ _ _ _ _ _ T1 (mkF m 7 #[.val (.ref a0), .val (.int (0 : Int32)), .val (.int (0 : Int32))] [(.int (0 : Int32))])
  refine retW X1 hx (t := .int) Bd.returns rfl (Or.inl ⟨rfl, Or.inl rfl, _, rfl⟩) (hb hby d31_7) hlk (by decide) (by decide) ?_
  show Q31 Z a0 h0 n0 _ T1.heap _
  rw [e1]
  have hv : (some (.int (0 : Int32)) : Option Value) = some (.int (0 : Int32)) := rfl
  exact ⟨hv, N1, rfl⟩
theorem d20_0 : decode jdk_42_method_59_code 0 = .ok (.iload_n 1, 1) := by decide +kernel
theorem d20_1 : decode jdk_42_method_59_code 1 = .ok (.iload_n 2, 1) := by decide +kernel
theorem d20_2 : decode jdk_42_method_59_code 2 = .ok (.aload_n 0, 1) := by decide +kernel
theorem d20_3 : decode jdk_42_method_59_code 3 = .ok (.invokevirtual 505, 3) := by decide +kernel
theorem d20_6 : decode jdk_42_method_59_code 6 = .ok (.invokestatic 511, 3) := by decide +kernel
theorem d20_9 : decode jdk_42_method_59_code 9 = .ok (.pop, 1) := by decide +kernel
theorem d20_10 : decode jdk_42_method_59_code 10 = .ok (.aload_n 0, 1) := by decide +kernel
theorem d20_11 : decode jdk_42_method_59_code 11 = .ok (.invokevirtual 492, 3) := by decide +kernel
theorem d20_14 : decode jdk_42_method_59_code 14 = .ok (.ifCond .eq 7, 3) := by decide +kernel
theorem d20_17 : decode jdk_42_method_59_code 17 = .ok (.iload_n 2, 1) := by decide +kernel
theorem d20_18 : decode jdk_42_method_59_code 18 = .ok (.iload_n 1, 1) := by decide +kernel
theorem d20_19 : decode jdk_42_method_59_code 19 = .ok (.isub, 1) := by decide +kernel
theorem d20_20 : decode jdk_42_method_59_code 20 = .ok (.ireturn, 1) := by decide +kernel
theorem pd_2829I : parseMethodDescriptor "()I" = some ⟨[], some .int⟩ := by decide +kernel
theorem pd_28III29I : parseMethodDescriptor "(III)I" = some ⟨[.int, .int, .int], some .int⟩ := by decide +kernel
theorem ef_20p0 (m : MethodId) (x0 : Addr) : entryFrame m #[(.ref x0), (.int (0 : Int32)), (.int (0 : Int32))] 3 = mkF m 0 #[.val (.ref x0), .val (.int (0 : Int32)), .val (.int (0 : Int32))] [] := by first | (simp [entryFrame, mkF, argsToLocals, Value.category]; done) | rfl
def Q20p0 (Z : State) (a0 : Addr) (cs : Int32) (b : Addr) (x0 x1 : Int32) (h0 : Heap) (n0 : Nat) (v : Option Value) (h : Heap) (L : List Loc) : Prop := v = some (.int (0 : Int32)) ∧ Fr n0 L ∧ h = h0
set_option maxRecDepth 65536 in
set_option maxHeartbeats 40000000 in
theorem rm20p0 (l : Launch) (Z : State) (aw : Array Value) (hw : ∀ d ∈ tables_1, d.before aw Z = true) (ws : List Jvm.Cond) (a0 : Addr) (cs : Int32) (b : Addr) (x0 x1 : Int32) (h0 : Heap) (n0 : Nat) (Z0 : n0 ≤ h0.size) (O0 : Old Z n0 h0) (S_cs : Sta Z Z.heap "java/lang/String" "COMPACT_STRINGS" "Z" (.int cs)) (hcs : ¬ (cs = (0 : Int32))) (E_a0 : Exa Z h0 a0 "java/lang/String") (F_c : Fld Z h0 a0 "java/lang/String" "coder" "B" (.int (0 : Int32))) (F_v : Fld Z h0 a0 "java/lang/String" "value" "[B" (.ref b)) (A_b : Ary Z h0 b .byte [(.int x0), (.int x1)]) :
    MetFree l (⟨"java/lang/String", "codePointCount", "(II)I"⟩ : MethodName) (head1 (Jvm.Cond.code (⟨"java/lang/String", "codePointCount", "(II)I"⟩ : MethodName) jdk_42_method_59_code 3 (some .int) :: ws) ({ frames := 2, cells := 0, slots := 0, locals := 29 } : Room)) (fun a U => a = #[(.ref a0), (.int (0 : Int32)), (.int (0 : Int32))] ∧ Z.Warmed39 U.vm ∧ U.heap = h0) (fun _ _ _ _ _ => True) (fun _ U o U' => ∃ v L, o = .returned v ∧ Q20p0 Z a0 cs b x0 x1 h0 n0 v U'.heap L ∧ FrameEnd U o U' L ({ frames := 2, cells := 0, slots := 0, locals := 29 } : Room).cells ({ frames := 2, cells := 0, slots := 0, locals := 29 } : Room).slots) := by
  refine MetFree.of_bodySF (plainFor_of_name pn_13) hisR ?_
  intro p e s m args below meth c s₁ Bd hml0 hP hK
  obtain ⟨rfl, hZ, hh⟩ := hP
  have hx := Bd.exec
  have hby := Bd.bytes
  have hml : c.maxLocals = 3 := hml0
  have hown : s.vm.findClass "java/lang/String" = some m.cls := findClass_of_methodNamed Bd.named
  have hnm := (name_of_methodNamed Bd.named Bd.method).1
  have hlk : meth.locks = false := BodyLoose.notSynchronized Bd
  have X0 : Stand p l e ({ frames := 2, cells := 0, slots := 0, locals := 29 } : Room) s m #[(.ref a0), (.int (0 : Int32)), (.int (0 : Int32))] below meth c s₁ [] 0 0 := Stand.of_body Bd
  have e0 : s₁.heap = h0 := by rw [← hh, Bd.state]; rfl
  have N0 := Fr.nil n0
  show Run p e s below (Q20p0 Z a0 cs b x0 x1 h0 n0) ({ frames := 2, cells := 0, slots := 0, locals := 29 } : Room).cells ({ frames := 2, cells := 0, slots := 0, locals := 29 } : Room).slots s₁ (entryFrame m #[(.ref a0), (.int (0 : Int32)), (.int (0 : Int32))] 3)
  rw [ef_20p0]
  show Run _ _ _ _ _ _ _ s₁ (mkF m 0 #[.val (.ref a0), .val (.int (0 : Int32)), .val (.int (0 : Int32))] [])
  refine go (T' := s₁) (f' := (mkF m 1 #[.val (.ref a0), .val (.int (0 : Int32)), .val (.int (0 : Int32))] [(.int (0 : Int32))])) (by intro t k; exact XS.iloadN X0.here hx rfl (hb hby d20_0) rfl k) ?_
  refine go (T' := s₁) (f' := (mkF m 2 #[.val (.ref a0), .val (.int (0 : Int32)), .val (.int (0 : Int32))] [(.int (0 : Int32)), (.int (0 : Int32))])) (by intro t k; exact XS.iloadN X0.here hx rfl (hb hby d20_1) rfl k) ?_
  refine go (T' := s₁) (f' := (mkF m 3 #[.val (.ref a0), .val (.int (0 : Int32)), .val (.int (0 : Int32))] [(.ref a0), (.int (0 : Int32)), (.int (0 : Int32))])) (by intro t k; exact XS.aloadN X0.here hx rfl (hb hby d20_2) rfl rfl k) ?_
  obtain ⟨cq1, kq1, q1a, q1b, q1c⟩ := isOf hZ e0 E_a0
  obtain ⟨_, _, ⟨T1, Lz1, kz1, nz1⟩, -, X1, ⟨Lc1, hQ1, lz1, yz1, zz1⟩, st1⟩ := X0.virtualBack hx (y := (⟨"java/lang/String", "length", "()I"⟩ : MethodName)) (z := (⟨"java/lang/String", "length", "()I"⟩ : MethodName)) hown (mvT hZ (hw _ (List.mem_of_getElem? (i := 103) rfl))) (mvT hZ (hw _ (List.mem_of_getElem? (i := 62) rfl))) (notFace_of_selects (args := #[]) (mvT hZ (hw _ (List.mem_of_getElem? (i := 64) rfl)))) (mvT hZ (hw _ (List.mem_of_getElem? (i := 64) rfl))) (mvT hZ (hw _ (List.mem_of_getElem? (i := 63) rfl))) (by decide) (backOf (W := 2) (rm12 l Z aw hw [] a0 cs b [(.int x0), (.int x1)] (2 : Int32) h0 n0 Z0 O0 S_cs hcs E_a0 F_c F_v A_b rfl) hZ (hw _ (List.mem_of_getElem? (i := 65) rfl)) (hw _ (List.mem_of_getElem? (i := 10) rfl)) (by decide) (by decide)) q1a q1c (g := (mkF m 3 #[.val (.ref a0), .val (.int (0 : Int32)), .val (.int (0 : Int32))] [(.ref a0), (.int (0 : Int32)), (.int (0 : Int32))])) rfl (by rw [hml]; rfl) (Steps.refl _) (argsL := []) (rest := [(.int (0 : Int32)), (.int (0 : Int32))]) (lenOf pd_2829I rfl) rfl (by show 2 * 0 + _ ≤ _; exact Nat.le_of_eq rfl) (hb hby d20_3) (fun _ _ => ⟨rfl, e0, (by decide : 0 + 0 ≤ _), (by decide : 0 + 0 ≤ _)⟩)
  dsimp only [Pt.U, Pt.locs, Pt.cells, Pt.slots] at X1 lz1 yz1 zz1 st1 hQ1
  subst lz1 yz1 zz1
  obtain ⟨rfl, N1q, e1⟩ := hQ1
  have N1 := Fr.app N0 N1q
  refine go (fun _ k => st1.trans k) ?_
  show Run _ _ _ _ _ _ _ T1 (mkF m 6 #[.val (.ref a0), .val (.int (0 : Int32)), .val (.int (0 : Int32))] [(.int (2 : Int32)), (.int (0 : Int32)), (.int (0 : Int32))])
  obtain ⟨_, _, ⟨T2, Lz2, kz2, nz2⟩, -, X2, ⟨Lc2, hQ2, lz2, yz2, zz2⟩, st2⟩ := Jvm.LawKit.callS X1 hx (y := (⟨"java/util/Objects", "checkFromToIndex", "(III)I"⟩ : MethodName)) hown (mvT hZ (hw _ (List.mem_of_getElem? (i := 104) rfl))) (mvT hZ (hw _ (List.mem_of_getElem? (i := 105) rfl))) (mvT hZ (hw _ (List.mem_of_getElem? (i := 106) rfl))) (mvT hZ (hw _ (List.mem_of_getElem? (i := 107) rfl))) (by decide) (backOf (W := 0) (rm21p0 l Z aw hw []   h0 n0 Z0 ) hZ (hw _ (List.mem_of_getElem? (i := 107) rfl)) (hw _ (List.mem_of_getElem? (i := 106) rfl)) (by decide) (by decide)) (g := (mkF m 6 #[.val (.ref a0), .val (.int (0 : Int32)), .val (.int (0 : Int32))] [(.int (2 : Int32)), (.int (0 : Int32)), (.int (0 : Int32))])) rfl (by rw [hml]; rfl) (argsL := [(.int (0 : Int32)), (.int (0 : Int32)), (.int (2 : Int32))]) (rest := []) (lenOf pd_28III29I rfl) rfl (by show 2 * 0 + _ ≤ _; exact Nat.le_of_eq rfl) (hb hby d20_6) (fun _ _ => ⟨rfl, e1, (by decide : 0 + 0 ≤ _), (by decide : 0 + 0 ≤ _)⟩)
  dsimp only [Pt.U, Pt.locs, Pt.cells, Pt.slots] at X2 lz2 yz2 zz2 st2 hQ2
  subst lz2 yz2 zz2
  obtain ⟨rfl, N2q, e2⟩ := hQ2
  have N2 := Fr.app N1 N2q
  refine go st2 ?_
  show Run _ _ _ _ _ _ _ T2 (mkF m 9 #[.val (.ref a0), .val (.int (0 : Int32)), .val (.int (0 : Int32))] [(.int (0 : Int32))])
  refine go (T' := T2) (f' := (mkF m 10 #[.val (.ref a0), .val (.int (0 : Int32)), .val (.int (0 : Int32))] [])) (by intro t k; exact XS.pop X2.here hx rfl (hb hby d20_9) rfl rfl k) ?_
  refine go (T' := T2) (f' := (mkF m 11 #[.val (.ref a0), .val (.int (0 : Int32)), .val (.int (0 : Int32))] [(.ref a0)])) (by intro t k; exact XS.aloadN X2.here hx rfl (hb hby d20_10) rfl rfl k) ?_
  obtain ⟨cq3, kq3, q3a, q3b, q3c⟩ := isOf hZ e2 E_a0
  obtain ⟨_, _, ⟨T3, Lz3, kz3, nz3⟩, -, X3, ⟨Lc3, hQ3, lz3, yz3, zz3⟩, st3⟩ := X2.virtualBack hx (y := (⟨"java/lang/String", "isLatin1", "()Z"⟩ : MethodName)) (z := (⟨"java/lang/String", "isLatin1", "()Z"⟩ : MethodName)) hown (mvT hZ (hw _ (List.mem_of_getElem? (i := 76) rfl))) (mvT hZ (hw _ (List.mem_of_getElem? (i := 77) rfl))) (notFace_of_selects (args := #[]) (mvT hZ (hw _ (List.mem_of_getElem? (i := 79) rfl)))) (mvT hZ (hw _ (List.mem_of_getElem? (i := 79) rfl))) (mvT hZ (hw _ (List.mem_of_getElem? (i := 78) rfl))) (by decide) (backOf (W := 0) (rm15 l Z aw hw [] a0 cs h0 n0 Z0 O0 S_cs hcs F_c) hZ (hw _ (List.mem_of_getElem? (i := 80) rfl)) (hw _ (List.mem_of_getElem? (i := 10) rfl)) (by decide) (by decide)) q3a q3c (g := (mkF m 11 #[.val (.ref a0), .val (.int (0 : Int32)), .val (.int (0 : Int32))] [(.ref a0)])) rfl (by rw [hml]; rfl) (Steps.refl _) (argsL := []) (rest := []) (lenOf pd_2829Z rfl) rfl (by show 2 * 0 + _ ≤ _; exact Nat.le_of_eq rfl) (hb hby d20_11) (fun _ _ => ⟨rfl, e2, (by decide : 0 + 0 ≤ _), (by decide : 0 + 0 ≤ _)⟩)
  dsimp only [Pt.U, Pt.locs, Pt.cells, Pt.slots] at X3 lz3 yz3 zz3 st3 hQ3
  subst lz3 yz3 zz3
  obtain ⟨rfl, N3q, e3⟩ := hQ3
  have N3 := Fr.app N2 N3q
  refine go (fun _ k => st3.trans k) ?_
  show Run _ _ _ _ _ _ _ T3 (mkF m 14 #[.val (.ref a0), .val (.int (0 : Int32)), .val (.int (0 : Int32))] [(.int (1 : Int32))])
  refine go (T' := T3) (f' := (mkF m 17 #[.val (.ref a0), .val (.int (0 : Int32)), .val (.int (0 : Int32))] [])) (by intro t k; exact XS.ifNo X3.here hx rfl (hb hby d20_14) rfl ((if0 _ _).trans (feq (by decide : ¬ ((1 : Int32) = (0 : Int32)))).1) k) ?_
  refine go (T' := T3) (f' := (mkF m 18 #[.val (.ref a0), .val (.int (0 : Int32)), .val (.int (0 : Int32))] [(.int (0 : Int32))])) (by intro t k; exact XS.iloadN X3.here hx rfl (hb hby d20_17) rfl k) ?_
  refine go (T' := T3) (f' := (mkF m 19 #[.val (.ref a0), .val (.int (0 : Int32)), .val (.int (0 : Int32))] [(.int (0 : Int32)), (.int (0 : Int32))])) (by intro t k; exact XS.iloadN X3.here hx rfl (hb hby d20_18) rfl k) ?_
  refine go (T' := T3) (f' := (mkF m 20 #[.val (.ref a0), .val (.int (0 : Int32)), .val (.int (0 : Int32))] [(.int (0 : Int32))])) (by intro t k; exact XS.isub X3.here hx rfl (hb hby d20_19) rfl k) ?_
  refine retW X3 hx (t := .int) Bd.returns rfl (Or.inl ⟨rfl, Or.inl rfl, _, rfl⟩) (hb hby d20_20) hlk (by decide) (by decide) ?_
  show Q20p0 Z a0 cs b x0 x1 h0 n0 _ T3.heap _
  rw [e3]
  have hv : (some (.int (0 : Int32)) : Option Value) = some (.int (0 : Int32)) := rfl
  exact ⟨hv, N3, rfl⟩
theorem ef_20p1 (m : MethodId) (x0 : Addr) : entryFrame m #[(.ref x0), (.int (0 : Int32)), (.int (1 : Int32))] 3 = mkF m 0 #[.val (.ref x0), .val (.int (0 : Int32)), .val (.int (1 : Int32))] [] := by first | (simp [entryFrame, mkF, argsToLocals, Value.category]; done) | rfl
def Q20p1 (Z : State) (a0 : Addr) (cs : Int32) (b : Addr) (x0 x1 : Int32) (h0 : Heap) (n0 : Nat) (v : Option Value) (h : Heap) (L : List Loc) : Prop := v = some (.int (1 : Int32)) ∧ Fr n0 L ∧ h = h0
set_option maxRecDepth 65536 in
set_option maxHeartbeats 40000000 in
theorem rm20p1 (l : Launch) (Z : State) (aw : Array Value) (hw : ∀ d ∈ tables_1, d.before aw Z = true) (ws : List Jvm.Cond) (a0 : Addr) (cs : Int32) (b : Addr) (x0 x1 : Int32) (h0 : Heap) (n0 : Nat) (Z0 : n0 ≤ h0.size) (O0 : Old Z n0 h0) (S_cs : Sta Z Z.heap "java/lang/String" "COMPACT_STRINGS" "Z" (.int cs)) (hcs : ¬ (cs = (0 : Int32))) (E_a0 : Exa Z h0 a0 "java/lang/String") (F_c : Fld Z h0 a0 "java/lang/String" "coder" "B" (.int (0 : Int32))) (F_v : Fld Z h0 a0 "java/lang/String" "value" "[B" (.ref b)) (A_b : Ary Z h0 b .byte [(.int x0), (.int x1)]) :
    MetFree l (⟨"java/lang/String", "codePointCount", "(II)I"⟩ : MethodName) (head1 (Jvm.Cond.code (⟨"java/lang/String", "codePointCount", "(II)I"⟩ : MethodName) jdk_42_method_59_code 3 (some .int) :: ws) ({ frames := 2, cells := 0, slots := 0, locals := 29 } : Room)) (fun a U => a = #[(.ref a0), (.int (0 : Int32)), (.int (1 : Int32))] ∧ Z.Warmed39 U.vm ∧ U.heap = h0) (fun _ _ _ _ _ => True) (fun _ U o U' => ∃ v L, o = .returned v ∧ Q20p1 Z a0 cs b x0 x1 h0 n0 v U'.heap L ∧ FrameEnd U o U' L ({ frames := 2, cells := 0, slots := 0, locals := 29 } : Room).cells ({ frames := 2, cells := 0, slots := 0, locals := 29 } : Room).slots) := by
  refine MetFree.of_bodySF (plainFor_of_name pn_13) hisR ?_
  intro p e s m args below meth c s₁ Bd hml0 hP hK
  obtain ⟨rfl, hZ, hh⟩ := hP
  have hx := Bd.exec
  have hby := Bd.bytes
  have hml : c.maxLocals = 3 := hml0
  have hown : s.vm.findClass "java/lang/String" = some m.cls := findClass_of_methodNamed Bd.named
  have hnm := (name_of_methodNamed Bd.named Bd.method).1
  have hlk : meth.locks = false := BodyLoose.notSynchronized Bd
  have X0 : Stand p l e ({ frames := 2, cells := 0, slots := 0, locals := 29 } : Room) s m #[(.ref a0), (.int (0 : Int32)), (.int (1 : Int32))] below meth c s₁ [] 0 0 := Stand.of_body Bd
  have e0 : s₁.heap = h0 := by rw [← hh, Bd.state]; rfl
  have N0 := Fr.nil n0
  show Run p e s below (Q20p1 Z a0 cs b x0 x1 h0 n0) ({ frames := 2, cells := 0, slots := 0, locals := 29 } : Room).cells ({ frames := 2, cells := 0, slots := 0, locals := 29 } : Room).slots s₁ (entryFrame m #[(.ref a0), (.int (0 : Int32)), (.int (1 : Int32))] 3)
  rw [ef_20p1]
  show Run _ _ _ _ _ _ _ s₁ (mkF m 0 #[.val (.ref a0), .val (.int (0 : Int32)), .val (.int (1 : Int32))] [])
  refine go (T' := s₁) (f' := (mkF m 1 #[.val (.ref a0), .val (.int (0 : Int32)), .val (.int (1 : Int32))] [(.int (0 : Int32))])) (by intro t k; exact XS.iloadN X0.here hx rfl (hb hby d20_0) rfl k) ?_
  refine go (T' := s₁) (f' := (mkF m 2 #[.val (.ref a0), .val (.int (0 : Int32)), .val (.int (1 : Int32))] [(.int (1 : Int32)), (.int (0 : Int32))])) (by intro t k; exact XS.iloadN X0.here hx rfl (hb hby d20_1) rfl k) ?_
  refine go (T' := s₁) (f' := (mkF m 3 #[.val (.ref a0), .val (.int (0 : Int32)), .val (.int (1 : Int32))] [(.ref a0), (.int (1 : Int32)), (.int (0 : Int32))])) (by intro t k; exact XS.aloadN X0.here hx rfl (hb hby d20_2) rfl rfl k) ?_
  obtain ⟨cq1, kq1, q1a, q1b, q1c⟩ := isOf hZ e0 E_a0
  obtain ⟨_, _, ⟨T1, Lz1, kz1, nz1⟩, -, X1, ⟨Lc1, hQ1, lz1, yz1, zz1⟩, st1⟩ := X0.virtualBack hx (y := (⟨"java/lang/String", "length", "()I"⟩ : MethodName)) (z := (⟨"java/lang/String", "length", "()I"⟩ : MethodName)) hown (mvT hZ (hw _ (List.mem_of_getElem? (i := 103) rfl))) (mvT hZ (hw _ (List.mem_of_getElem? (i := 62) rfl))) (notFace_of_selects (args := #[]) (mvT hZ (hw _ (List.mem_of_getElem? (i := 64) rfl)))) (mvT hZ (hw _ (List.mem_of_getElem? (i := 64) rfl))) (mvT hZ (hw _ (List.mem_of_getElem? (i := 63) rfl))) (by decide) (backOf (W := 2) (rm12 l Z aw hw [] a0 cs b [(.int x0), (.int x1)] (2 : Int32) h0 n0 Z0 O0 S_cs hcs E_a0 F_c F_v A_b rfl) hZ (hw _ (List.mem_of_getElem? (i := 65) rfl)) (hw _ (List.mem_of_getElem? (i := 10) rfl)) (by decide) (by decide)) q1a q1c (g := (mkF m 3 #[.val (.ref a0), .val (.int (0 : Int32)), .val (.int (1 : Int32))] [(.ref a0), (.int (1 : Int32)), (.int (0 : Int32))])) rfl (by rw [hml]; rfl) (Steps.refl _) (argsL := []) (rest := [(.int (1 : Int32)), (.int (0 : Int32))]) (lenOf pd_2829I rfl) rfl (by show 2 * 0 + _ ≤ _; exact Nat.le_of_eq rfl) (hb hby d20_3) (fun _ _ => ⟨rfl, e0, (by decide : 0 + 0 ≤ _), (by decide : 0 + 0 ≤ _)⟩)
  dsimp only [Pt.U, Pt.locs, Pt.cells, Pt.slots] at X1 lz1 yz1 zz1 st1 hQ1
  subst lz1 yz1 zz1
  obtain ⟨rfl, N1q, e1⟩ := hQ1
  have N1 := Fr.app N0 N1q
  refine go (fun _ k => st1.trans k) ?_
  show Run _ _ _ _ _ _ _ T1 (mkF m 6 #[.val (.ref a0), .val (.int (0 : Int32)), .val (.int (1 : Int32))] [(.int (2 : Int32)), (.int (1 : Int32)), (.int (0 : Int32))])
  obtain ⟨_, _, ⟨T2, Lz2, kz2, nz2⟩, -, X2, ⟨Lc2, hQ2, lz2, yz2, zz2⟩, st2⟩ := Jvm.LawKit.callS X1 hx (y := (⟨"java/util/Objects", "checkFromToIndex", "(III)I"⟩ : MethodName)) hown (mvT hZ (hw _ (List.mem_of_getElem? (i := 104) rfl))) (mvT hZ (hw _ (List.mem_of_getElem? (i := 105) rfl))) (mvT hZ (hw _ (List.mem_of_getElem? (i := 106) rfl))) (mvT hZ (hw _ (List.mem_of_getElem? (i := 107) rfl))) (by decide) (backOf (W := 0) (rm21p1 l Z aw hw []   h0 n0 Z0 ) hZ (hw _ (List.mem_of_getElem? (i := 107) rfl)) (hw _ (List.mem_of_getElem? (i := 106) rfl)) (by decide) (by decide)) (g := (mkF m 6 #[.val (.ref a0), .val (.int (0 : Int32)), .val (.int (1 : Int32))] [(.int (2 : Int32)), (.int (1 : Int32)), (.int (0 : Int32))])) rfl (by rw [hml]; rfl) (argsL := [(.int (0 : Int32)), (.int (1 : Int32)), (.int (2 : Int32))]) (rest := []) (lenOf pd_28III29I rfl) rfl (by show 2 * 0 + _ ≤ _; exact Nat.le_of_eq rfl) (hb hby d20_6) (fun _ _ => ⟨rfl, e1, (by decide : 0 + 0 ≤ _), (by decide : 0 + 0 ≤ _)⟩)
  dsimp only [Pt.U, Pt.locs, Pt.cells, Pt.slots] at X2 lz2 yz2 zz2 st2 hQ2
  subst lz2 yz2 zz2
  obtain ⟨rfl, N2q, e2⟩ := hQ2
  have N2 := Fr.app N1 N2q
  refine go st2 ?_
  show Run _ _ _ _ _ _ _ T2 (mkF m 9 #[.val (.ref a0), .val (.int (0 : Int32)), .val (.int (1 : Int32))] [(.int (0 : Int32))])
  refine go (T' := T2) (f' := (mkF m 10 #[.val (.ref a0), .val (.int (0 : Int32)), .val (.int (1 : Int32))] [])) (by intro t k; exact XS.pop X2.here hx rfl (hb hby d20_9) rfl rfl k) ?_
  refine go (T' := T2) (f' := (mkF m 11 #[.val (.ref a0), .val (.int (0 : Int32)), .val (.int (1 : Int32))] [(.ref a0)])) (by intro t k; exact XS.aloadN X2.here hx rfl (hb hby d20_10) rfl rfl k) ?_
  obtain ⟨cq3, kq3, q3a, q3b, q3c⟩ := isOf hZ e2 E_a0
  obtain ⟨_, _, ⟨T3, Lz3, kz3, nz3⟩, -, X3, ⟨Lc3, hQ3, lz3, yz3, zz3⟩, st3⟩ := X2.virtualBack hx (y := (⟨"java/lang/String", "isLatin1", "()Z"⟩ : MethodName)) (z := (⟨"java/lang/String", "isLatin1", "()Z"⟩ : MethodName)) hown (mvT hZ (hw _ (List.mem_of_getElem? (i := 76) rfl))) (mvT hZ (hw _ (List.mem_of_getElem? (i := 77) rfl))) (notFace_of_selects (args := #[]) (mvT hZ (hw _ (List.mem_of_getElem? (i := 79) rfl)))) (mvT hZ (hw _ (List.mem_of_getElem? (i := 79) rfl))) (mvT hZ (hw _ (List.mem_of_getElem? (i := 78) rfl))) (by decide) (backOf (W := 0) (rm15 l Z aw hw [] a0 cs h0 n0 Z0 O0 S_cs hcs F_c) hZ (hw _ (List.mem_of_getElem? (i := 80) rfl)) (hw _ (List.mem_of_getElem? (i := 10) rfl)) (by decide) (by decide)) q3a q3c (g := (mkF m 11 #[.val (.ref a0), .val (.int (0 : Int32)), .val (.int (1 : Int32))] [(.ref a0)])) rfl (by rw [hml]; rfl) (Steps.refl _) (argsL := []) (rest := []) (lenOf pd_2829Z rfl) rfl (by show 2 * 0 + _ ≤ _; exact Nat.le_of_eq rfl) (hb hby d20_11) (fun _ _ => ⟨rfl, e2, (by decide : 0 + 0 ≤ _), (by decide : 0 + 0 ≤ _)⟩)
  dsimp only [Pt.U, Pt.locs, Pt.cells, Pt.slots] at X3 lz3 yz3 zz3 st3 hQ3
  subst lz3 yz3 zz3
  obtain ⟨rfl, N3q, e3⟩ := hQ3
  have N3 := Fr.app N2 N3q
  refine go (fun _ k => st3.trans k) ?_
  show Run _ _ _ _ _ _ _ T3 (mkF m 14 #[.val (.ref a0), .val (.int (0 : Int32)), .val (.int (1 : Int32))] [(.int (1 : Int32))])
  refine go (T' := T3) (f' := (mkF m 17 #[.val (.ref a0), .val (.int (0 : Int32)), .val (.int (1 : Int32))] [])) (by intro t k; exact XS.ifNo X3.here hx rfl (hb hby d20_14) rfl ((if0 _ _).trans (feq (by decide : ¬ ((1 : Int32) = (0 : Int32)))).1) k) ?_
  refine go (T' := T3) (f' := (mkF m 18 #[.val (.ref a0), .val (.int (0 : Int32)), .val (.int (1 : Int32))] [(.int (1 : Int32))])) (by intro t k; exact XS.iloadN X3.here hx rfl (hb hby d20_17) rfl k) ?_
  refine go (T' := T3) (f' := (mkF m 19 #[.val (.ref a0), .val (.int (0 : Int32)), .val (.int (1 : Int32))] [(.int (0 : Int32)), (.int (1 : Int32))])) (by intro t k; exact XS.iloadN X3.here hx rfl (hb hby d20_18) rfl k) ?_
  refine go (T' := T3) (f' := (mkF m 20 #[.val (.ref a0), .val (.int (0 : Int32)), .val (.int (1 : Int32))] [(.int (1 : Int32))])) (by intro t k; exact XS.isub X3.here hx rfl (hb hby d20_19) rfl k) ?_
  refine retW X3 hx (t := .int) Bd.returns rfl (Or.inl ⟨rfl, Or.inl rfl, _, rfl⟩) (hb hby d20_20) hlk (by decide) (by decide) ?_
  show Q20p1 Z a0 cs b x0 x1 h0 n0 _ T3.heap _
  rw [e3]
  have hv : (some (.int (1 : Int32)) : Option Value) = some (.int (1 : Int32)) := rfl
  exact ⟨hv, N3, rfl⟩
theorem d20_21 : decode jdk_42_method_59_code 21 = .ok (.aload_n 0, 1) := by decide +kernel
theorem d20_22 : decode jdk_42_method_59_code 22 = .ok (.getfield 9, 3) := by decide +kernel
theorem d20_25 : decode jdk_42_method_59_code 25 = .ok (.iload_n 1, 1) := by decide +kernel
theorem d20_26 : decode jdk_42_method_59_code 26 = .ok (.iload_n 2, 1) := by decide +kernel
theorem d20_27 : decode jdk_42_method_59_code 27 = .ok (.invokestatic 514, 3) := by decide +kernel
theorem d20_30 : decode jdk_42_method_59_code 30 = .ok (.ireturn, 1) := by decide +kernel
theorem pd_285bBII29I : parseMethodDescriptor "([BII)I" = some ⟨[(.array .byte), .int, .int], some .int⟩ := by decide +kernel
theorem ef_20u (m : MethodId) (x0 : Addr) : entryFrame m #[(.ref x0), (.int (0 : Int32)), (.int (0 : Int32))] 3 = mkF m 0 #[.val (.ref x0), .val (.int (0 : Int32)), .val (.int (0 : Int32))] [] := by first | (simp [entryFrame, mkF, argsToLocals, Value.category]; done) | rfl
def Q20u (Z : State) (a0 : Addr) (cs : Int32) (b : Addr) (x0 x1 x2 x3 : Int32) (h0 : Heap) (n0 : Nat) (v : Option Value) (h : Heap) (L : List Loc) : Prop := v = some (.int (0 : Int32)) ∧ Fr n0 L ∧ h = h0
set_option maxRecDepth 65536 in
set_option maxHeartbeats 40000000 in
theorem rm20u (l : Launch) (Z : State) (aw : Array Value) (hw : ∀ d ∈ tables_1, d.before aw Z = true) (ws : List Jvm.Cond) (a0 : Addr) (cs : Int32) (b : Addr) (x0 x1 x2 x3 : Int32) (h0 : Heap) (n0 : Nat) (Z0 : n0 ≤ h0.size) (O0 : Old Z n0 h0) (S_cs : Sta Z Z.heap "java/lang/String" "COMPACT_STRINGS" "Z" (.int cs)) (hcs : ¬ (cs = (0 : Int32))) (S_ad : Sta Z Z.heap "java/lang/StringUTF16" "$assertionsDisabled" "Z" (.int (1 : Int32))) (E_a0 : Exa Z h0 a0 "java/lang/String") (F_c : Fld Z h0 a0 "java/lang/String" "coder" "B" (.int (1 : Int32))) (F_v : Fld Z h0 a0 "java/lang/String" "value" "[B" (.ref b)) (A_b : Ary Z h0 b .byte [(.int x0), (.int x1), (.int x2), (.int x3)]) :
    MetFree l (⟨"java/lang/String", "codePointCount", "(II)I"⟩ : MethodName) (head1 (Jvm.Cond.code (⟨"java/lang/String", "codePointCount", "(II)I"⟩ : MethodName) jdk_42_method_59_code 3 (some .int) :: ws) ({ frames := 2, cells := 0, slots := 0, locals := 31 } : Room)) (fun a U => a = #[(.ref a0), (.int (0 : Int32)), (.int (0 : Int32))] ∧ Z.Warmed39 U.vm ∧ U.heap = h0) (fun _ _ _ _ _ => True) (fun _ U o U' => ∃ v L, o = .returned v ∧ Q20u Z a0 cs b x0 x1 x2 x3 h0 n0 v U'.heap L ∧ FrameEnd U o U' L ({ frames := 2, cells := 0, slots := 0, locals := 31 } : Room).cells ({ frames := 2, cells := 0, slots := 0, locals := 31 } : Room).slots) := by
  refine MetFree.of_bodySF (plainFor_of_name pn_13) hisR ?_
  intro p e s m args below meth c s₁ Bd hml0 hP hK
  obtain ⟨rfl, hZ, hh⟩ := hP
  have hx := Bd.exec
  have hby := Bd.bytes
  have hml : c.maxLocals = 3 := hml0
  have hown : s.vm.findClass "java/lang/String" = some m.cls := findClass_of_methodNamed Bd.named
  have hnm := (name_of_methodNamed Bd.named Bd.method).1
  have hlk : meth.locks = false := BodyLoose.notSynchronized Bd
  have X0 : Stand p l e ({ frames := 2, cells := 0, slots := 0, locals := 31 } : Room) s m #[(.ref a0), (.int (0 : Int32)), (.int (0 : Int32))] below meth c s₁ [] 0 0 := Stand.of_body Bd
  have e0 : s₁.heap = h0 := by rw [← hh, Bd.state]; rfl
  have N0 := Fr.nil n0
  show Run p e s below (Q20u Z a0 cs b x0 x1 x2 x3 h0 n0) ({ frames := 2, cells := 0, slots := 0, locals := 31 } : Room).cells ({ frames := 2, cells := 0, slots := 0, locals := 31 } : Room).slots s₁ (entryFrame m #[(.ref a0), (.int (0 : Int32)), (.int (0 : Int32))] 3)
  rw [ef_20u]
  show Run _ _ _ _ _ _ _ s₁ (mkF m 0 #[.val (.ref a0), .val (.int (0 : Int32)), .val (.int (0 : Int32))] [])
  refine go (T' := s₁) (f' := (mkF m 1 #[.val (.ref a0), .val (.int (0 : Int32)), .val (.int (0 : Int32))] [(.int (0 : Int32))])) (by intro t k; exact XS.iloadN X0.here hx rfl (hb hby d20_0) rfl k) ?_
  refine go (T' := s₁) (f' := (mkF m 2 #[.val (.ref a0), .val (.int (0 : Int32)), .val (.int (0 : Int32))] [(.int (0 : Int32)), (.int (0 : Int32))])) (by intro t k; exact XS.iloadN X0.here hx rfl (hb hby d20_1) rfl k) ?_
  refine go (T' := s₁) (f' := (mkF m 3 #[.val (.ref a0), .val (.int (0 : Int32)), .val (.int (0 : Int32))] [(.ref a0), (.int (0 : Int32)), (.int (0 : Int32))])) (by intro t k; exact XS.aloadN X0.here hx rfl (hb hby d20_2) rfl rfl k) ?_
  obtain ⟨cq1, kq1, q1a, q1b, q1c⟩ := isOf hZ e0 E_a0
  obtain ⟨_, _, ⟨T1, Lz1, kz1, nz1⟩, -, X1, ⟨Lc1, hQ1, lz1, yz1, zz1⟩, st1⟩ := X0.virtualBack hx (y := (⟨"java/lang/String", "length", "()I"⟩ : MethodName)) (z := (⟨"java/lang/String", "length", "()I"⟩ : MethodName)) hown (mvT hZ (hw _ (List.mem_of_getElem? (i := 103) rfl))) (mvT hZ (hw _ (List.mem_of_getElem? (i := 62) rfl))) (notFace_of_selects (args := #[]) (mvT hZ (hw _ (List.mem_of_getElem? (i := 64) rfl)))) (mvT hZ (hw _ (List.mem_of_getElem? (i := 64) rfl))) (mvT hZ (hw _ (List.mem_of_getElem? (i := 63) rfl))) (by decide) (backOf (W := 2) (rm12u l Z aw hw [] a0 cs b x0 x1 x2 x3 h0 n0 Z0 O0 S_cs hcs E_a0 F_c F_v A_b) hZ (hw _ (List.mem_of_getElem? (i := 65) rfl)) (hw _ (List.mem_of_getElem? (i := 10) rfl)) (by decide) (by decide)) q1a q1c (g := (mkF m 3 #[.val (.ref a0), .val (.int (0 : Int32)), .val (.int (0 : Int32))] [(.ref a0), (.int (0 : Int32)), (.int (0 : Int32))])) rfl (by rw [hml]; rfl) (Steps.refl _) (argsL := []) (rest := [(.int (0 : Int32)), (.int (0 : Int32))]) (lenOf pd_2829I rfl) rfl (by show 2 * 0 + _ ≤ _; exact Nat.le_of_eq rfl) (hb hby d20_3) (fun _ _ => ⟨rfl, e0, (by decide : 0 + 0 ≤ _), (by decide : 0 + 0 ≤ _)⟩)
  dsimp only [Pt.U, Pt.locs, Pt.cells, Pt.slots] at X1 lz1 yz1 zz1 st1 hQ1
  subst lz1 yz1 zz1
  obtain ⟨rfl, N1q, e1⟩ := hQ1
  have N1 := Fr.app N0 N1q
  refine go (fun _ k => st1.trans k) ?_
  show Run _ _ _ _ _ _ _ T1 (mkF m 6 #[.val (.ref a0), .val (.int (0 : Int32)), .val (.int (0 : Int32))] [(.int (2 : Int32)), (.int (0 : Int32)), (.int (0 : Int32))])
  obtain ⟨_, _, ⟨T2, Lz2, kz2, nz2⟩, -, X2, ⟨Lc2, hQ2, lz2, yz2, zz2⟩, st2⟩ := Jvm.LawKit.callS X1 hx (y := (⟨"java/util/Objects", "checkFromToIndex", "(III)I"⟩ : MethodName)) hown (mvT hZ (hw _ (List.mem_of_getElem? (i := 104) rfl))) (mvT hZ (hw _ (List.mem_of_getElem? (i := 105) rfl))) (mvT hZ (hw _ (List.mem_of_getElem? (i := 106) rfl))) (mvT hZ (hw _ (List.mem_of_getElem? (i := 107) rfl))) (by decide) (backOf (W := 0) (rm21p0 l Z aw hw []   h0 n0 Z0 ) hZ (hw _ (List.mem_of_getElem? (i := 107) rfl)) (hw _ (List.mem_of_getElem? (i := 106) rfl)) (by decide) (by decide)) (g := (mkF m 6 #[.val (.ref a0), .val (.int (0 : Int32)), .val (.int (0 : Int32))] [(.int (2 : Int32)), (.int (0 : Int32)), (.int (0 : Int32))])) rfl (by rw [hml]; rfl) (argsL := [(.int (0 : Int32)), (.int (0 : Int32)), (.int (2 : Int32))]) (rest := []) (lenOf pd_28III29I rfl) rfl (by show 2 * 0 + _ ≤ _; exact Nat.le_of_eq rfl) (hb hby d20_6) (fun _ _ => ⟨rfl, e1, (by decide : 0 + 0 ≤ _), (by decide : 0 + 0 ≤ _)⟩)
  dsimp only [Pt.U, Pt.locs, Pt.cells, Pt.slots] at X2 lz2 yz2 zz2 st2 hQ2
  subst lz2 yz2 zz2
  obtain ⟨rfl, N2q, e2⟩ := hQ2
  have N2 := Fr.app N1 N2q
  refine go st2 ?_
  show Run _ _ _ _ _ _ _ T2 (mkF m 9 #[.val (.ref a0), .val (.int (0 : Int32)), .val (.int (0 : Int32))] [(.int (0 : Int32))])
  refine go (T' := T2) (f' := (mkF m 10 #[.val (.ref a0), .val (.int (0 : Int32)), .val (.int (0 : Int32))] [])) (by intro t k; exact XS.pop X2.here hx rfl (hb hby d20_9) rfl rfl k) ?_
  refine go (T' := T2) (f' := (mkF m 11 #[.val (.ref a0), .val (.int (0 : Int32)), .val (.int (0 : Int32))] [(.ref a0)])) (by intro t k; exact XS.aloadN X2.here hx rfl (hb hby d20_10) rfl rfl k) ?_
  obtain ⟨cq3, kq3, q3a, q3b, q3c⟩ := isOf hZ e2 E_a0
  obtain ⟨_, _, ⟨T3, Lz3, kz3, nz3⟩, -, X3, ⟨Lc3, hQ3, lz3, yz3, zz3⟩, st3⟩ := X2.virtualBack hx (y := (⟨"java/lang/String", "isLatin1", "()Z"⟩ : MethodName)) (z := (⟨"java/lang/String", "isLatin1", "()Z"⟩ : MethodName)) hown (mvT hZ (hw _ (List.mem_of_getElem? (i := 76) rfl))) (mvT hZ (hw _ (List.mem_of_getElem? (i := 77) rfl))) (notFace_of_selects (args := #[]) (mvT hZ (hw _ (List.mem_of_getElem? (i := 79) rfl)))) (mvT hZ (hw _ (List.mem_of_getElem? (i := 79) rfl))) (mvT hZ (hw _ (List.mem_of_getElem? (i := 78) rfl))) (by decide) (backOf (W := 0) (rm15u l Z aw hw [] a0 cs h0 n0 Z0 O0 S_cs hcs F_c) hZ (hw _ (List.mem_of_getElem? (i := 80) rfl)) (hw _ (List.mem_of_getElem? (i := 10) rfl)) (by decide) (by decide)) q3a q3c (g := (mkF m 11 #[.val (.ref a0), .val (.int (0 : Int32)), .val (.int (0 : Int32))] [(.ref a0)])) rfl (by rw [hml]; rfl) (Steps.refl _) (argsL := []) (rest := []) (lenOf pd_2829Z rfl) rfl (by show 2 * 0 + _ ≤ _; exact Nat.le_of_eq rfl) (hb hby d20_11) (fun _ _ => ⟨rfl, e2, (by decide : 0 + 0 ≤ _), (by decide : 0 + 0 ≤ _)⟩)
  dsimp only [Pt.U, Pt.locs, Pt.cells, Pt.slots] at X3 lz3 yz3 zz3 st3 hQ3
  subst lz3 yz3 zz3
  obtain ⟨rfl, N3q, e3⟩ := hQ3
  have N3 := Fr.app N2 N3q
  refine go (fun _ k => st3.trans k) ?_
  show Run _ _ _ _ _ _ _ T3 (mkF m 14 #[.val (.ref a0), .val (.int (0 : Int32)), .val (.int (0 : Int32))] [(.int (0 : Int32))])
  refine go (T' := T3) (f' := (mkF m 21 #[.val (.ref a0), .val (.int (0 : Int32)), .val (.int (0 : Int32))] [])) (by intro t k; exact XS.ifYes X3.here hx rfl (pc0 := 14) (pc' := 21) rfl (hb hby d20_14) rfl ((if0 _ _).trans (teq (rfl : (0 : Int32) = (0 : Int32))).1) (by decide) (by decide) k) ?_
  refine go (T' := T3) (f' := (mkF m 22 #[.val (.ref a0), .val (.int (0 : Int32)), .val (.int (0 : Int32))] [(.ref a0)])) (by intro t k; exact XS.aloadN X3.here hx rfl (hb hby d20_21) rfl rfl k) ?_
  obtain ⟨T4, X4, e4, st4⟩ := getF X3 hx hZ hown (host := "") (Or.inl (hw _ (List.mem_of_getElem? (i := 35) rfl))) Via.refl e3 F_v (g := (mkF m 22 #[.val (.ref a0), .val (.int (0 : Int32)), .val (.int (0 : Int32))] [(.ref a0)])) rfl rfl (hb hby d20_22)
  refine go st4 ?_
  show Run _ _ _ _ _ _ _ T4 (mkF m 25 #[.val (.ref a0), .val (.int (0 : Int32)), .val (.int (0 : Int32))] [(.ref b)])
  refine go (T' := T4) (f' := (mkF m 26 #[.val (.ref a0), .val (.int (0 : Int32)), .val (.int (0 : Int32))] [(.int (0 : Int32)), (.ref b)])) (by intro t k; exact XS.iloadN X4.here hx rfl (hb hby d20_25) rfl k) ?_
  refine go (T' := T4) (f' := (mkF m 27 #[.val (.ref a0), .val (.int (0 : Int32)), .val (.int (0 : Int32))] [(.int (0 : Int32)), (.int (0 : Int32)), (.ref b)])) (by intro t k; exact XS.iloadN X4.here hx rfl (hb hby d20_26) rfl k) ?_
  obtain ⟨_, _, ⟨T5, Lz5, kz5, nz5⟩, -, X5, ⟨Lc5, hQ5, lz5, yz5, zz5⟩, st5⟩ := Jvm.LawKit.callS X4 hx (y := (⟨"java/lang/StringUTF16", "codePointCount", "([BII)I"⟩ : MethodName)) hown (mvT hZ (hw _ (List.mem_of_getElem? (i := 140) rfl))) (mvT hZ (hw _ (List.mem_of_getElem? (i := 141) rfl))) (mvT hZ (hw _ (List.mem_of_getElem? (i := 24) rfl))) (mvT hZ (hw _ (List.mem_of_getElem? (i := 142) rfl))) (by decide) (backOf (W := 0) (rm31 l Z aw hw [] b  h0 n0 Z0 O0 S_ad) hZ (hw _ (List.mem_of_getElem? (i := 142) rfl)) (hw _ (List.mem_of_getElem? (i := 24) rfl)) (by decide) (by decide)) (g := (mkF m 27 #[.val (.ref a0), .val (.int (0 : Int32)), .val (.int (0 : Int32))] [(.int (0 : Int32)), (.int (0 : Int32)), (.ref b)])) rfl (by rw [hml]; rfl) (argsL := [(.ref b), (.int (0 : Int32)), (.int (0 : Int32))]) (rest := []) (lenOf pd_285bBII29I rfl) rfl (by show 2 * 0 + _ ≤ _; exact Nat.le_of_eq rfl) (hb hby d20_27) (fun _ _ => ⟨rfl, e4, (by decide : 0 + 0 ≤ _), (by decide : 0 + 0 ≤ _)⟩)
  dsimp only [Pt.U, Pt.locs, Pt.cells, Pt.slots] at X5 lz5 yz5 zz5 st5 hQ5
  subst lz5 yz5 zz5
  obtain ⟨rfl, N5q, e5⟩ := hQ5
  have N5 := Fr.app N3 N5q
  refine go st5 ?_
  show Run _ _ _ _ _ _ _ T5 (mkF m 30 #[.val (.ref a0), .val (.int (0 : Int32)), .val (.int (0 : Int32))] [(.int (0 : Int32))])
  refine retW X5 hx (t := .int) Bd.returns rfl (Or.inl ⟨rfl, Or.inl rfl, _, rfl⟩) (hb hby d20_30) hlk (by decide) (by decide) ?_
  show Q20u Z a0 cs b x0 x1 x2 x3 h0 n0 _ T5.heap _
  rw [e5]
  have hv : (some (.int (0 : Int32)) : Option Value) = some (.int (0 : Int32)) := rfl
  exact ⟨hv, N5, rfl⟩
def own_blank (p0 : Int32) : Int32 := (if p0 = (32 : Int32) then (1 : Int32) else (if p0 = (9 : Int32) then (1 : Int32) else (if p0 = (13 : Int32) then (1 : Int32) else (0 : Int32))))
theorem d1_0 : decode prog_32_method_19_code 0 = .ok (.iload_n 0, 1) := by decide +kernel
theorem d1_1 : decode prog_32_method_19_code 1 = .ok (.bipush 32, 2) := by decide +kernel
theorem d1_3 : decode prog_32_method_19_code 3 = .ok (.if_icmp .eq 15, 3) := by decide +kernel
theorem d1_18 : decode prog_32_method_19_code 18 = .ok (.iconst 1, 1) := by decide +kernel
theorem d1_19 : decode prog_32_method_19_code 19 = .ok (.goto 4, 3) := by decide +kernel
theorem d1_6 : decode prog_32_method_19_code 6 = .ok (.iload_n 0, 1) := by decide +kernel
theorem d1_7 : decode prog_32_method_19_code 7 = .ok (.bipush 9, 2) := by decide +kernel
theorem d1_9 : decode prog_32_method_19_code 9 = .ok (.if_icmp .eq 9, 3) := by decide +kernel
theorem d1_12 : decode prog_32_method_19_code 12 = .ok (.iload_n 0, 1) := by decide +kernel
theorem d1_13 : decode prog_32_method_19_code 13 = .ok (.bipush 13, 2) := by decide +kernel
theorem d1_15 : decode prog_32_method_19_code 15 = .ok (.if_icmp .ne 7, 3) := by decide +kernel
theorem d1_22 : decode prog_32_method_19_code 22 = .ok (.iconst 0, 1) := by decide +kernel
theorem d1_23 : decode prog_32_method_19_code 23 = .ok (.ireturn, 1) := by decide +kernel
theorem pn_1 : plainName "com/example/settle/settle/io/LineCursor" = true := by first | (simp [plainName, overriddenIn]; done) | decide +kernel
theorem ef_1 (m : MethodId) (x0 : Int32) : entryFrame m #[(.int x0)] 1 = mkF m 0 #[.val (.int x0)] [] := by first | (simp [entryFrame, mkF, argsToLocals, Value.category]; done) | rfl
def Q1 (Z : State) (p0 : Int32) (z : Int32) (h0 : Heap) (n0 : Nat) (v : Option Value) (h : Heap) (L : List Loc) : Prop := v = some (.int z) ∧ Fr n0 L ∧ h = h0
set_option maxRecDepth 65536 in
set_option maxHeartbeats 40000000 in
theorem rm1 (l : Launch) (Z : State) (aw : Array Value) (hw : ∀ d ∈ tables_1, d.before aw Z = true) (ws : List Jvm.Cond) (p0 : Int32) (z : Int32) (h0 : Heap) (n0 : Nat) (Z0 : n0 ≤ h0.size) (hz : own_blank p0 = z) :
    MetFree l (⟨"com/example/settle/settle/io/LineCursor", "isBlank", "(I)Z"⟩ : MethodName) (head1 (Jvm.Cond.code (⟨"com/example/settle/settle/io/LineCursor", "isBlank", "(I)Z"⟩ : MethodName) prog_32_method_19_code 1 (some .boolean) :: ws) ({ frames := 0, cells := 0, slots := 0, locals := 0 } : Room)) (fun a U => a = #[(.int p0)] ∧ Z.Warmed39 U.vm ∧ U.heap = h0) (fun _ _ _ _ _ => True) (fun _ U o U' => ∃ v L, o = .returned v ∧ Q1 Z p0 z h0 n0 v U'.heap L ∧ FrameEnd U o U' L ({ frames := 0, cells := 0, slots := 0, locals := 0 } : Room).cells ({ frames := 0, cells := 0, slots := 0, locals := 0 } : Room).slots) := by
  refine MetFree.of_bodySF (plainFor_of_name pn_1) hisR ?_
  intro p e s m args below meth c s₁ Bd hml0 hP hK
  obtain ⟨rfl, hZ, hh⟩ := hP
  have hx := Bd.exec
  have hby := Bd.bytes
  have hml : c.maxLocals = 1 := hml0
  have hown : s.vm.findClass "com/example/settle/settle/io/LineCursor" = some m.cls := findClass_of_methodNamed Bd.named
  have hnm := (name_of_methodNamed Bd.named Bd.method).1
  have hlk : meth.locks = false := BodyLoose.notSynchronized Bd
  have X0 : Stand p l e ({ frames := 0, cells := 0, slots := 0, locals := 0 } : Room) s m #[(.int p0)] below meth c s₁ [] 0 0 := Stand.of_body Bd
  have e0 : s₁.heap = h0 := by rw [← hh, Bd.state]; rfl
  have N0 := Fr.nil n0
  show Run p e s below (Q1 Z p0 z h0 n0) ({ frames := 0, cells := 0, slots := 0, locals := 0 } : Room).cells ({ frames := 0, cells := 0, slots := 0, locals := 0 } : Room).slots s₁ (entryFrame m #[(.int p0)] 1)
  rw [ef_1]
  show Run _ _ _ _ _ _ _ s₁ (mkF m 0 #[.val (.int p0)] [])
  refine go (T' := s₁) (f' := (mkF m 1 #[.val (.int p0)] [(.int p0)])) (by intro t k; exact XS.iloadN X0.here hx rfl (hb hby d1_0) rfl k) ?_
  refine go (T' := s₁) (f' := (mkF m 3 #[.val (.int p0)] [(.int (32 : Int32)), (.int p0)])) (by intro t k; exact XS.bipush X0.here hx rfl (hb hby d1_1) k) ?_
  obtain ⟨z1, hz1⟩ : ∃ z : Int32, z = (if p0 = (32 : Int32) then (1 : Int32) else (if p0 = (9 : Int32) then (1 : Int32) else (if p0 = (13 : Int32) then (1 : Int32) else (0 : Int32)))) := ⟨_, rfl⟩
  have J3 : Run p e s below (Q1 Z p0 z h0 n0) ({ frames := 0, cells := 0, slots := 0, locals := 0 } : Room).cells ({ frames := 0, cells := 0, slots := 0, locals := 0 } : Room).slots s₁ (mkF m 23 #[.val (.int p0)] [(.int z1)]) := by
    show Run _ _ _ _ _ _ _ s₁ (mkF m 23 #[.val (.int p0)] [(.int z1)])
    refine retZ X0 hx (t := .boolean) Bd.returns (by simp) (hb hby d1_23) hlk (by decide) (by decide) ?_
    show Q1 Z p0 z h0 n0 _ s₁.heap _
    rw [e0]
    have hv' : (nar .boolean z1) = z := by
      subst_vars
      unfold own_blank
      (repeat' split) <;> first | rfl | contradiction
    have hv : (some (.int (nar .boolean z1)) : Option Value) = some (.int z) := congrArg (fun z => (some (.int z) : Option Value)) hv'
    exact ⟨hv, N0, rfl⟩
  show Run _ _ _ _ _ _ _ s₁ (mkF m 3 #[.val (.int p0)] [(.int (32 : Int32)), (.int p0)])
  by_cases hc3 : p0 = (32 : Int32)
  · refine go (T' := s₁) (f' := (mkF m 18 #[.val (.int p0)] [])) (by intro t k; exact XS.icmpYes X0.here hx rfl (pc0 := 3) (pc' := 18) rfl (hb hby d1_3) rfl (teq hc3).1 (by decide) (by decide) k) ?_
    refine go (T' := s₁) (f' := (mkF m 19 #[.val (.int p0)] [(.int (1 : Int32))])) (by intro t k; exact XS.iconst X0.here hx rfl (hb hby d1_18) k) ?_
    refine go (T' := s₁) (f' := (mkF m 23 #[.val (.int p0)] [(.int (1 : Int32))])) (by intro t k; exact XS.goto X0.here hx rfl (pc0 := 19) (pc' := 23) rfl (hb hby d1_19) (by decide) (by decide) k) ?_
    have ez1 : z1 = (1 : Int32) := (hz1).trans (if_pos hc3)
    subst ez1
    exact J3
  · refine go (T' := s₁) (f' := (mkF m 6 #[.val (.int p0)] [])) (by intro t k; exact XS.icmpNo X0.here hx rfl (hb hby d1_3) rfl (feq hc3).1 k) ?_
    refine go (T' := s₁) (f' := (mkF m 7 #[.val (.int p0)] [(.int p0)])) (by intro t k; exact XS.iloadN X0.here hx rfl (hb hby d1_6) rfl k) ?_
    refine go (T' := s₁) (f' := (mkF m 9 #[.val (.int p0)] [(.int (9 : Int32)), (.int p0)])) (by intro t k; exact XS.bipush X0.here hx rfl (hb hby d1_7) k) ?_
    by_cases hc9 : p0 = (9 : Int32)
    · refine go (T' := s₁) (f' := (mkF m 18 #[.val (.int p0)] [])) (by intro t k; exact XS.icmpYes X0.here hx rfl (pc0 := 9) (pc' := 18) rfl (hb hby d1_9) rfl (teq hc9).1 (by decide) (by decide) k) ?_
      refine go (T' := s₁) (f' := (mkF m 19 #[.val (.int p0)] [(.int (1 : Int32))])) (by intro t k; exact XS.iconst X0.here hx rfl (hb hby d1_18) k) ?_
      refine go (T' := s₁) (f' := (mkF m 23 #[.val (.int p0)] [(.int (1 : Int32))])) (by intro t k; exact XS.goto X0.here hx rfl (pc0 := 19) (pc' := 23) rfl (hb hby d1_19) (by decide) (by decide) k) ?_
      have ez1 : z1 = (1 : Int32) := ((hz1).trans (if_neg hc3)).trans (if_pos hc9)
      subst ez1
      exact J3
    · refine go (T' := s₁) (f' := (mkF m 12 #[.val (.int p0)] [])) (by intro t k; exact XS.icmpNo X0.here hx rfl (hb hby d1_9) rfl (feq hc9).1 k) ?_
      refine go (T' := s₁) (f' := (mkF m 13 #[.val (.int p0)] [(.int p0)])) (by intro t k; exact XS.iloadN X0.here hx rfl (hb hby d1_12) rfl k) ?_
      refine go (T' := s₁) (f' := (mkF m 15 #[.val (.int p0)] [(.int (13 : Int32)), (.int p0)])) (by intro t k; exact XS.bipush X0.here hx rfl (hb hby d1_13) k) ?_
      by_cases hc15 : p0 = (13 : Int32)
      · refine go (T' := s₁) (f' := (mkF m 18 #[.val (.int p0)] [])) (by intro t k; exact XS.icmpNo X0.here hx rfl (hb hby d1_15) rfl (teq hc15).2 k) ?_
        refine go (T' := s₁) (f' := (mkF m 19 #[.val (.int p0)] [(.int (1 : Int32))])) (by intro t k; exact XS.iconst X0.here hx rfl (hb hby d1_18) k) ?_
        refine go (T' := s₁) (f' := (mkF m 23 #[.val (.int p0)] [(.int (1 : Int32))])) (by intro t k; exact XS.goto X0.here hx rfl (pc0 := 19) (pc' := 23) rfl (hb hby d1_19) (by decide) (by decide) k) ?_
        have ez1 : z1 = (1 : Int32) := (((hz1).trans (if_neg hc3)).trans (if_neg hc9)).trans (if_pos hc15)
        subst ez1
        exact J3
      · refine go (T' := s₁) (f' := (mkF m 22 #[.val (.int p0)] [])) (by intro t k; exact XS.icmpYes X0.here hx rfl (pc0 := 15) (pc' := 22) rfl (hb hby d1_15) rfl (feq hc15).2 (by decide) (by decide) k) ?_
        refine go (T' := s₁) (f' := (mkF m 23 #[.val (.int p0)] [(.int (0 : Int32))])) (by intro t k; exact XS.iconst X0.here hx rfl (hb hby d1_22) k) ?_
        have ez1 : z1 = (0 : Int32) := (((hz1).trans (if_neg hc3)).trans (if_neg hc9)).trans (if_neg hc15)
        subst ez1
        exact J3
theorem own_bl (x : Int32) : own_blank x = (if x = (9 : Int32) then (1 : Int32) else (if x = (13 : Int32) then (1 : Int32) else (if x = (32 : Int32) then (1 : Int32) else (0 : Int32)))) := by
  unfold own_blank
  (repeat' split) <;> first | rfl | contradiction | (simp_all; done)
theorem own_three {w z : Int32} (hk : nar .char w = w) (hz : z = (if w = (9 : Int32) then (1 : Int32) else (if w = (13 : Int32) then (1 : Int32) else (if w = (32 : Int32) then (1 : Int32) else (0 : Int32))))) : (z = (0 : Int32) ∧ own_blank (nar .char w) = (0 : Int32) ∧ (255 : Int32) < nar .char w) ∨ (z = (0 : Int32) ∧ own_blank (nar .char w) = (0 : Int32) ∧ ¬ ((255 : Int32) < nar .char w)) ∨ (z = (1 : Int32) ∧ own_blank (nar .char w) = (1 : Int32) ∧ ¬ ((255 : Int32) < nar .char w)) := by
  rw [hk, own_bl, ← hz]
  by_cases h1 : w = 9
  · subst h1; exact Or.inr (Or.inr ⟨hz, hz, by decide⟩)
  by_cases h2 : w = 13
  · subst h2; exact Or.inr (Or.inr ⟨hz, hz, by decide⟩)
  by_cases h3 : w = 32
  · subst h3; exact Or.inr (Or.inr ⟨hz, hz, by decide⟩)
  rw [if_neg h1, if_neg h2, if_neg h3] at hz
  by_cases h4 : (255 : Int32) < w
  · exact Or.inl ⟨hz, hz, h4⟩
  · exact Or.inr (Or.inl ⟨hz, hz, h4⟩)
theorem d9_0 : decode prog_32_method_2_code 0 = .ok (.aload_n 0, 1) := by decide +kernel
theorem d9_1 : decode prog_32_method_2_code 1 = .ok (.invokespecial 7, 3) := by decide +kernel
theorem d9_4 : decode prog_32_method_2_code 4 = .ok (.aload_n 0, 1) := by decide +kernel
theorem d9_5 : decode prog_32_method_2_code 5 = .ok (.aload_n 1, 1) := by decide +kernel
theorem d9_6 : decode prog_32_method_2_code 6 = .ok (.putfield 12, 3) := by decide +kernel
theorem d9_9 : decode prog_32_method_2_code 9 = .ok (.aload_n 0, 1) := by decide +kernel
theorem d9_10 : decode prog_32_method_2_code 10 = .ok (.iload_n 2, 1) := by decide +kernel
theorem d9_11 : decode prog_32_method_2_code 11 = .ok (.putfield 16, 3) := by decide +kernel
theorem d9_14 : decode prog_32_method_2_code 14 = .ok (.aload_n 0, 1) := by decide +kernel
theorem d9_15 : decode prog_32_method_2_code 15 = .ok (.iload_n 3, 1) := by decide +kernel
theorem d9_16 : decode prog_32_method_2_code 16 = .ok (.putfield 20, 3) := by decide +kernel
theorem d9_19 : decode prog_32_method_2_code 19 = .ok (.return_, 1) := by decide +kernel
theorem ef_9 (m : MethodId) (x0 : Addr) (x1 : Addr) : entryFrame m #[(.ref x0), (.ref x1), (.int (1 : Int32)), (.int (0 : Int32))] 4 = mkF m 0 #[.val (.ref x0), .val (.ref x1), .val (.int (1 : Int32)), .val (.int (0 : Int32))] [] := by first | (simp [entryFrame, mkF, argsToLocals, Value.category]; done) | rfl
def Q9 (Z : State) (a0 : Addr) (a1 : Addr) (h0 : Heap) (n0 : Nat) (v : Option Value) (h : Heap) (L : List Loc) : Prop := v = none ∧ Fr n0 L ∧ Keep h0 h [a0] ∧ Fld Z h a0 "com/example/settle/settle/io/LineCursor" "text" "Ljava/lang/String;" (.ref a1) ∧ Fld Z h a0 "com/example/settle/settle/io/LineCursor" "line" "I" (.int (1 : Int32)) ∧ Fld Z h a0 "com/example/settle/settle/io/LineCursor" "columns" "Z" (.int (0 : Int32)) ∧ Fld Z h a0 "com/example/settle/settle/io/LineCursor" "position" "I" (.int (0 : Int32))
set_option maxRecDepth 65536 in
set_option maxHeartbeats 40000000 in
theorem rm9 (l : Launch) (Z : State) (aw : Array Value) (hw : ∀ d ∈ tables_1, d.before aw Z = true) (ws : List Jvm.Cond) (a0 : Addr) (a1 : Addr) (h0 : Heap) (n0 : Nat) (Z0 : n0 ≤ h0.size) (E_a0 : Exa Z h0 a0 "com/example/settle/settle/io/LineCursor") (Ft_a0 : Fld Z h0 a0 "com/example/settle/settle/io/LineCursor" "text" "Ljava/lang/String;" .null) (Fl_a0 : Fld Z h0 a0 "com/example/settle/settle/io/LineCursor" "line" "I" (.int (0 : Int32))) (Fz_a0 : Fld Z h0 a0 "com/example/settle/settle/io/LineCursor" "columns" "Z" (.int (0 : Int32))) (Fp_a0 : Fld Z h0 a0 "com/example/settle/settle/io/LineCursor" "position" "I" (.int (0 : Int32))) (g_a0 : n0 ≤ a0) (E_a1 : Exa Z h0 a1 "java/lang/String") (n_01 : a0 ≠ a1) :
    MetFree l (⟨"com/example/settle/settle/io/LineCursor", "<init>", "(Ljava/lang/String;IZ)V"⟩ : MethodName) (head1 (Jvm.Cond.code (⟨"com/example/settle/settle/io/LineCursor", "<init>", "(Ljava/lang/String;IZ)V"⟩ : MethodName) prog_32_method_2_code 4 none :: ws) ({ frames := 1, cells := 0, slots := 0, locals := 12 } : Room)) (fun a U => a = #[(.ref a0), (.ref a1), (.int (1 : Int32)), (.int (0 : Int32))] ∧ Z.Warmed39 U.vm ∧ U.heap = h0) (fun _ _ _ _ _ => True) (fun _ U o U' => ∃ v L, o = .returned v ∧ Q9 Z a0 a1 h0 n0 v U'.heap L ∧ FrameEnd U o U' L ({ frames := 1, cells := 0, slots := 0, locals := 12 } : Room).cells ({ frames := 1, cells := 0, slots := 0, locals := 12 } : Room).slots) := by
  refine MetFree.of_bodySF (plainFor_of_name pn_1) hisR ?_
  intro p e s m args below meth c s₁ Bd hml0 hP hK
  obtain ⟨rfl, hZ, hh⟩ := hP
  have hx := Bd.exec
  have hby := Bd.bytes
  have hml : c.maxLocals = 4 := hml0
  have hown : s.vm.findClass "com/example/settle/settle/io/LineCursor" = some m.cls := findClass_of_methodNamed Bd.named
  have hnm := (name_of_methodNamed Bd.named Bd.method).1
  have hlk : meth.locks = false := BodyLoose.notSynchronized Bd
  have X0 : Stand p l e ({ frames := 1, cells := 0, slots := 0, locals := 12 } : Room) s m #[(.ref a0), (.ref a1), (.int (1 : Int32)), (.int (0 : Int32))] below meth c s₁ [] 0 0 := Stand.of_body Bd
  have e0 : s₁.heap = h0 := by rw [← hh, Bd.state]; rfl
  have N0 := Fr.nil n0
  show Run p e s below (Q9 Z a0 a1 h0 n0) ({ frames := 1, cells := 0, slots := 0, locals := 12 } : Room).cells ({ frames := 1, cells := 0, slots := 0, locals := 12 } : Room).slots s₁ (entryFrame m #[(.ref a0), (.ref a1), (.int (1 : Int32)), (.int (0 : Int32))] 4)
  rw [ef_9]
  show Run _ _ _ _ _ _ _ s₁ (mkF m 0 #[.val (.ref a0), .val (.ref a1), .val (.int (1 : Int32)), .val (.int (0 : Int32))] [])
  refine go (T' := s₁) (f' := (mkF m 1 #[.val (.ref a0), .val (.ref a1), .val (.int (1 : Int32)), .val (.int (0 : Int32))] [(.ref a0)])) (by intro t k; exact XS.aloadN X0.here hx rfl (hb hby d9_0) rfl rfl k) ?_
  obtain ⟨T1, X1, e1, st1⟩ := initO X0 hx hZ hown (hw _ (List.mem_of_getElem? (i := 43) rfl)) (hw _ (List.mem_of_getElem? (i := 19) rfl)) (hw _ (List.mem_of_getElem? (i := 20) rfl)) e0 (g := (mkF m 1 #[.val (.ref a0), .val (.ref a1), .val (.int (1 : Int32)), .val (.int (0 : Int32))] [(.ref a0)])) rfl (by rw [hml]; rfl) rfl (hb hby d9_1) (by decide) (W := 0) (by show 2 * 0 + _ ≤ _; exact Nat.le_of_eq rfl) (by decide)
  refine go st1 ?_
  show Run _ _ _ _ _ _ _ T1 (mkF m 4 #[.val (.ref a0), .val (.ref a1), .val (.int (1 : Int32)), .val (.int (0 : Int32))] [])
  refine go (T' := T1) (f' := (mkF m 5 #[.val (.ref a0), .val (.ref a1), .val (.int (1 : Int32)), .val (.int (0 : Int32))] [(.ref a0)])) (by intro t k; exact XS.aloadN X1.here hx rfl (hb hby d9_4) rfl rfl k) ?_
  refine go (T' := T1) (f' := (mkF m 6 #[.val (.ref a0), .val (.ref a1), .val (.int (1 : Int32)), .val (.int (0 : Int32))] [(.ref a1), (.ref a0)])) (by intro t k; exact XS.aloadN X1.here hx rfl (hb hby d9_5) rfl rfl k) ?_
  obtain ⟨T2, h2, X2, e2, W2, st2⟩ := putF X1 hx hZ hown (host := "") (Or.inl (hw _ (List.mem_of_getElem? (i := 44) rfl))) Via.refl e1 Ft_a0 E_a0 (Or.inr ⟨(hw _ (List.mem_of_getElem? (i := 45) rfl)), rfl, hnm⟩) (hw _ (List.mem_of_getElem? (i := 7) rfl)) (ty := (.object "java/lang/String")) (by decide) rfl rfl (g := (mkF m 6 #[.val (.ref a0), .val (.ref a1), .val (.int (1 : Int32)), .val (.int (0 : Int32))] [(.ref a1), (.ref a0)])) rfl rfl (hb hby d9_6)
  have K2 : Keep h0 h2 [a0] := Keep.of_wr W2
  have F2_a0_text : Fld Z h2 a0 "com/example/settle/settle/io/LineCursor" "text" "Ljava/lang/String;" (.ref a1) := Ft_a0.same W2
  have F2_a0_line := Fld.other W2 Fl_a0 (Or.inr (slot_ne (Or.inr (hw _ (List.mem_of_getElem? (i := 47) rfl))) (Or.inr (hw _ (List.mem_of_getElem? (i := 45) rfl))) (by decide) (t := .int) (t' := (.object "java/lang/String")) (by decide) (by decide)))
  have F2_a0_columns := Fld.other W2 Fz_a0 (Or.inr (slot_ne (Or.inr (hw _ (List.mem_of_getElem? (i := 49) rfl))) (Or.inr (hw _ (List.mem_of_getElem? (i := 45) rfl))) (by decide) (t := .boolean) (t' := (.object "java/lang/String")) (by decide) (by decide)))
  have F2_a0_position := Fld.other W2 Fp_a0 (Or.inr (slot_ne (Or.inl (hw _ (List.mem_of_getElem? (i := 60) rfl))) (Or.inr (hw _ (List.mem_of_getElem? (i := 45) rfl))) (by decide) (t := .int) (t' := (.object "java/lang/String")) (by decide) (by decide)))
  have N2 := Fr.snoc X2 N0 g_a0
  have E2_a0 := Exa.keep E_a0 K2
  have E2_a1 := Exa.keep E_a1 K2
  have Z2 : n0 ≤ h2.size := Nat.le_trans Z0 K2.1
  have KK2 : Keep h0 h2 [a0] := (Keep.refl _ _).trans K2 (allS (Or.inl (List.mem_of_getElem? (i := 0) rfl)) all0)
  refine go st2 ?_
  show Run _ _ _ _ _ _ _ T2 (mkF m 9 #[.val (.ref a0), .val (.ref a1), .val (.int (1 : Int32)), .val (.int (0 : Int32))] [])
  refine go (T' := T2) (f' := (mkF m 10 #[.val (.ref a0), .val (.ref a1), .val (.int (1 : Int32)), .val (.int (0 : Int32))] [(.ref a0)])) (by intro t k; exact XS.aloadN X2.here hx rfl (hb hby d9_9) rfl rfl k) ?_
  refine go (T' := T2) (f' := (mkF m 11 #[.val (.ref a0), .val (.ref a1), .val (.int (1 : Int32)), .val (.int (0 : Int32))] [(.int (1 : Int32)), (.ref a0)])) (by intro t k; exact XS.iloadN X2.here hx rfl (hb hby d9_10) rfl k) ?_
  obtain ⟨T3, h3, X3, e3, W3, st3⟩ := putF X2 hx hZ hown (host := "") (Or.inl (hw _ (List.mem_of_getElem? (i := 46) rfl))) Via.refl e2 F2_a0_line E2_a0 (Or.inr ⟨(hw _ (List.mem_of_getElem? (i := 47) rfl)), rfl, hnm⟩) (hw _ (List.mem_of_getElem? (i := 7) rfl)) (ty := .int) (by decide) rfl rfl (g := (mkF m 11 #[.val (.ref a0), .val (.ref a1), .val (.int (1 : Int32)), .val (.int (0 : Int32))] [(.int (1 : Int32)), (.ref a0)])) rfl rfl (hb hby d9_11)
  have K3 : Keep h2 h3 [a0] := Keep.of_wr W3
  have F3_a0_text := Fld.other W3 F2_a0_text (Or.inr (slot_ne (Or.inr (hw _ (List.mem_of_getElem? (i := 45) rfl))) (Or.inr (hw _ (List.mem_of_getElem? (i := 47) rfl))) (by decide) (t := (.object "java/lang/String")) (t' := .int) (by decide) (by decide)))
  have F3_a0_line : Fld Z h3 a0 "com/example/settle/settle/io/LineCursor" "line" "I" (.int (1 : Int32)) := F2_a0_line.same W3
  have F3_a0_columns := Fld.other W3 F2_a0_columns (Or.inr (slot_ne (Or.inr (hw _ (List.mem_of_getElem? (i := 49) rfl))) (Or.inr (hw _ (List.mem_of_getElem? (i := 47) rfl))) (by decide) (t := .boolean) (t' := .int) (by decide) (by decide)))
  have F3_a0_position := Fld.other W3 F2_a0_position (Or.inr (slot_ne (Or.inl (hw _ (List.mem_of_getElem? (i := 60) rfl))) (Or.inr (hw _ (List.mem_of_getElem? (i := 47) rfl))) (by decide) (t := .int) (t' := .int) (by decide) (by decide)))
  have N3 := Fr.snoc X3 N2 g_a0
  have E3_a0 := Exa.keep E2_a0 K3
  have E3_a1 := Exa.keep E2_a1 K3
  have Z3 : n0 ≤ h3.size := Nat.le_trans Z2 K3.1
  have KK3 : Keep h0 h3 [a0] := KK2.trans K3 (allS (Or.inl (List.mem_of_getElem? (i := 0) rfl)) all0)
  refine go st3 ?_
  show Run _ _ _ _ _ _ _ T3 (mkF m 14 #[.val (.ref a0), .val (.ref a1), .val (.int (1 : Int32)), .val (.int (0 : Int32))] [])
  refine go (T' := T3) (f' := (mkF m 15 #[.val (.ref a0), .val (.ref a1), .val (.int (1 : Int32)), .val (.int (0 : Int32))] [(.ref a0)])) (by intro t k; exact XS.aloadN X3.here hx rfl (hb hby d9_14) rfl rfl k) ?_
  refine go (T' := T3) (f' := (mkF m 16 #[.val (.ref a0), .val (.ref a1), .val (.int (1 : Int32)), .val (.int (0 : Int32))] [(.int (0 : Int32)), (.ref a0)])) (by intro t k; exact XS.iloadN X3.here hx rfl (hb hby d9_15) rfl k) ?_
  obtain ⟨T4, h4, X4, e4, W4, st4⟩ := putFN X3 hx hZ hown (hw _ (List.mem_of_getElem? (i := 48) rfl)) Via.refl e3 F3_a0_columns E3_a0 (Or.inr ⟨(hw _ (List.mem_of_getElem? (i := 49) rfl)), rfl, hnm⟩) (hw _ (List.mem_of_getElem? (i := 7) rfl)) (ty := .boolean) (v' := (.int (0 : Int32))) (by decide) rfl rfl (g := (mkF m 16 #[.val (.ref a0), .val (.ref a1), .val (.int (1 : Int32)), .val (.int (0 : Int32))] [(.int (0 : Int32)), (.ref a0)])) rfl rfl (hb hby d9_16)
  have K4 : Keep h3 h4 [a0] := Keep.of_wr W4
  have F4_a0_text := Fld.other W4 F3_a0_text (Or.inr (slot_ne (Or.inr (hw _ (List.mem_of_getElem? (i := 45) rfl))) (Or.inr (hw _ (List.mem_of_getElem? (i := 49) rfl))) (by decide) (t := (.object "java/lang/String")) (t' := .boolean) (by decide) (by decide)))
  have F4_a0_line := Fld.other W4 F3_a0_line (Or.inr (slot_ne (Or.inr (hw _ (List.mem_of_getElem? (i := 47) rfl))) (Or.inr (hw _ (List.mem_of_getElem? (i := 49) rfl))) (by decide) (t := .int) (t' := .boolean) (by decide) (by decide)))
  have F4_a0_columns : Fld Z h4 a0 "com/example/settle/settle/io/LineCursor" "columns" "Z" (.int (0 : Int32)) := F3_a0_columns.same W4
  have F4_a0_position := Fld.other W4 F3_a0_position (Or.inr (slot_ne (Or.inl (hw _ (List.mem_of_getElem? (i := 60) rfl))) (Or.inr (hw _ (List.mem_of_getElem? (i := 49) rfl))) (by decide) (t := .int) (t' := .boolean) (by decide) (by decide)))
  have N4 := Fr.snoc X4 N3 g_a0
  have E4_a0 := Exa.keep E3_a0 K4
  have E4_a1 := Exa.keep E3_a1 K4
  have Z4 : n0 ≤ h4.size := Nat.le_trans Z3 K4.1
  have KK4 : Keep h0 h4 [a0] := KK3.trans K4 (allS (Or.inl (List.mem_of_getElem? (i := 0) rfl)) all0)
  refine go st4 ?_
  show Run _ _ _ _ _ _ _ T4 (mkF m 19 #[.val (.ref a0), .val (.ref a1), .val (.int (1 : Int32)), .val (.int (0 : Int32))] [])
  refine retV X4 hx Bd.returns (hb hby d9_19) hlk (by decide) (by decide) ?_
  show Q9 Z a0 a1 h0 n0 _ T4.heap _
  rw [e4]
  exact ⟨rfl, N4, KK4, F4_a0_text, F4_a0_line, F4_a0_columns, F4_a0_position⟩
theorem d8_0 : decode prog_32_method_1_code 0 = .ok (.aload_n 0, 1) := by decide +kernel
theorem d8_1 : decode prog_32_method_1_code 1 = .ok (.aload_n 1, 1) := by decide +kernel
theorem d8_2 : decode prog_32_method_1_code 2 = .ok (.iload_n 2, 1) := by decide +kernel
theorem d8_3 : decode prog_32_method_1_code 3 = .ok (.iconst 0, 1) := by decide +kernel
theorem d8_4 : decode prog_32_method_1_code 4 = .ok (.invokespecial 1, 3) := by decide +kernel
theorem d8_7 : decode prog_32_method_1_code 7 = .ok (.return_, 1) := by decide +kernel
theorem pd_28Ljava2flang2fString3bIZ29V : parseMethodDescriptor "(Ljava/lang/String;IZ)V" = some ⟨[(.object "java/lang/String"), .int, .boolean], none⟩ := by decide +kernel
theorem ef_8 (m : MethodId) (x0 : Addr) (x1 : Addr) : entryFrame m #[(.ref x0), (.ref x1), (.int (1 : Int32))] 3 = mkF m 0 #[.val (.ref x0), .val (.ref x1), .val (.int (1 : Int32))] [] := by first | (simp [entryFrame, mkF, argsToLocals, Value.category]; done) | rfl
def Q8 (Z : State) (a0 : Addr) (a1 : Addr) (h0 : Heap) (n0 : Nat) (v : Option Value) (h : Heap) (L : List Loc) : Prop := v = none ∧ Fr n0 L ∧ Keep h0 h [a0] ∧ Fld Z h a0 "com/example/settle/settle/io/LineCursor" "text" "Ljava/lang/String;" (.ref a1) ∧ Fld Z h a0 "com/example/settle/settle/io/LineCursor" "line" "I" (.int (1 : Int32)) ∧ Fld Z h a0 "com/example/settle/settle/io/LineCursor" "columns" "Z" (.int (0 : Int32)) ∧ Fld Z h a0 "com/example/settle/settle/io/LineCursor" "position" "I" (.int (0 : Int32))
set_option maxRecDepth 65536 in
set_option maxHeartbeats 40000000 in
theorem rm8 (l : Launch) (Z : State) (aw : Array Value) (hw : ∀ d ∈ tables_1, d.before aw Z = true) (ws : List Jvm.Cond) (a0 : Addr) (a1 : Addr) (h0 : Heap) (n0 : Nat) (Z0 : n0 ≤ h0.size) (E_a0 : Exa Z h0 a0 "com/example/settle/settle/io/LineCursor") (Ft_a0 : Fld Z h0 a0 "com/example/settle/settle/io/LineCursor" "text" "Ljava/lang/String;" .null) (Fl_a0 : Fld Z h0 a0 "com/example/settle/settle/io/LineCursor" "line" "I" (.int (0 : Int32))) (Fz_a0 : Fld Z h0 a0 "com/example/settle/settle/io/LineCursor" "columns" "Z" (.int (0 : Int32))) (Fp_a0 : Fld Z h0 a0 "com/example/settle/settle/io/LineCursor" "position" "I" (.int (0 : Int32))) (g_a0 : n0 ≤ a0) (E_a1 : Exa Z h0 a1 "java/lang/String") (n_01 : a0 ≠ a1) :
    MetFree l (⟨"com/example/settle/settle/io/LineCursor", "<init>", "(Ljava/lang/String;I)V"⟩ : MethodName) (head1 (Jvm.Cond.code (⟨"com/example/settle/settle/io/LineCursor", "<init>", "(Ljava/lang/String;I)V"⟩ : MethodName) prog_32_method_1_code 3 none :: ws) ({ frames := 2, cells := 0, slots := 0, locals := 27 } : Room)) (fun a U => a = #[(.ref a0), (.ref a1), (.int (1 : Int32))] ∧ Z.Warmed39 U.vm ∧ U.heap = h0) (fun _ _ _ _ _ => True) (fun _ U o U' => ∃ v L, o = .returned v ∧ Q8 Z a0 a1 h0 n0 v U'.heap L ∧ FrameEnd U o U' L ({ frames := 2, cells := 0, slots := 0, locals := 27 } : Room).cells ({ frames := 2, cells := 0, slots := 0, locals := 27 } : Room).slots) := by
  refine MetFree.of_bodySF (plainFor_of_name pn_1) hisR ?_
  intro p e s m args below meth c s₁ Bd hml0 hP hK
  obtain ⟨rfl, hZ, hh⟩ := hP
  have hx := Bd.exec
  have hby := Bd.bytes
  have hml : c.maxLocals = 3 := hml0
  have hown : s.vm.findClass "com/example/settle/settle/io/LineCursor" = some m.cls := findClass_of_methodNamed Bd.named
  have hnm := (name_of_methodNamed Bd.named Bd.method).1
  have hlk : meth.locks = false := BodyLoose.notSynchronized Bd
  have X0 : Stand p l e ({ frames := 2, cells := 0, slots := 0, locals := 27 } : Room) s m #[(.ref a0), (.ref a1), (.int (1 : Int32))] below meth c s₁ [] 0 0 := Stand.of_body Bd
  have e0 : s₁.heap = h0 := by rw [← hh, Bd.state]; rfl
  have N0 := Fr.nil n0
  show Run p e s below (Q8 Z a0 a1 h0 n0) ({ frames := 2, cells := 0, slots := 0, locals := 27 } : Room).cells ({ frames := 2, cells := 0, slots := 0, locals := 27 } : Room).slots s₁ (entryFrame m #[(.ref a0), (.ref a1), (.int (1 : Int32))] 3)
  rw [ef_8]
  show Run _ _ _ _ _ _ _ s₁ (mkF m 0 #[.val (.ref a0), .val (.ref a1), .val (.int (1 : Int32))] [])
  refine go (T' := s₁) (f' := (mkF m 1 #[.val (.ref a0), .val (.ref a1), .val (.int (1 : Int32))] [(.ref a0)])) (by intro t k; exact XS.aloadN X0.here hx rfl (hb hby d8_0) rfl rfl k) ?_
  refine go (T' := s₁) (f' := (mkF m 2 #[.val (.ref a0), .val (.ref a1), .val (.int (1 : Int32))] [(.ref a1), (.ref a0)])) (by intro t k; exact XS.aloadN X0.here hx rfl (hb hby d8_1) rfl rfl k) ?_
  refine go (T' := s₁) (f' := (mkF m 3 #[.val (.ref a0), .val (.ref a1), .val (.int (1 : Int32))] [(.int (1 : Int32)), (.ref a1), (.ref a0)])) (by intro t k; exact XS.iloadN X0.here hx rfl (hb hby d8_2) rfl k) ?_
  refine go (T' := s₁) (f' := (mkF m 4 #[.val (.ref a0), .val (.ref a1), .val (.int (1 : Int32))] [(.int (0 : Int32)), (.int (1 : Int32)), (.ref a1), (.ref a0)])) (by intro t k; exact XS.iconst X0.here hx rfl (hb hby d8_3) k) ?_
  obtain ⟨_, _, ⟨T1, Lz1, kz1, nz1⟩, -, X1, ⟨Lc1, hQ1, lz1, yz1, zz1⟩, st1⟩ := X0.specialBack hx (y := (⟨"com/example/settle/settle/io/LineCursor", "<init>", "(Ljava/lang/String;IZ)V"⟩ : MethodName)) rfl hown (mvT hZ (hw _ (List.mem_of_getElem? (i := 40) rfl))) (mvT hZ (hw _ (List.mem_of_getElem? (i := 41) rfl))) (mvT hZ (hw _ (List.mem_of_getElem? (i := 42) rfl))) (by decide) (backOf (W := 0) (rm9 l Z aw hw [] a0 a1  h0 n0 Z0 E_a0 Ft_a0 Fl_a0 Fz_a0 Fp_a0 g_a0 E_a1 n_01) hZ (hw _ (List.mem_of_getElem? (i := 42) rfl)) (hw _ (List.mem_of_getElem? (i := 2) rfl)) (by decide) (by decide)) (g := (mkF m 4 #[.val (.ref a0), .val (.ref a1), .val (.int (1 : Int32))] [(.int (0 : Int32)), (.int (1 : Int32)), (.ref a1), (.ref a0)])) rfl (by rw [hml]; rfl) (Steps.refl _) (a := a0) (argsL := [(.ref a1), (.int (1 : Int32)), (.int (0 : Int32))]) (rest := []) (lenOf pd_28Ljava2flang2fString3bIZ29V rfl) rfl (by show 2 * 0 + _ ≤ _; exact Nat.le_of_eq rfl) (hb hby d8_4) (fun _ _ => ⟨rfl, e0, (by decide : 0 + 0 ≤ _), (by decide : 0 + 0 ≤ _)⟩)
  dsimp only [Pt.U, Pt.locs, Pt.cells, Pt.slots] at X1 lz1 yz1 zz1 st1 hQ1
  subst lz1 yz1 zz1
  obtain ⟨rfl, N1q, K1, Ft1, Fl1, Fz1, Fp1⟩ := hQ1
  have E1_a0 := Exa.keep E_a0 K1
  have E1_a1 := Exa.keep E_a1 K1
  have Z1 : n0 ≤ T1.heap.size := Nat.le_trans Z0 K1.1
  have KK1 : Keep h0 T1.heap [a0] := (Keep.refl _ _).trans K1 (allS (Or.inl (List.mem_of_getElem? (i := 0) rfl)) all0)
  have N1 := Fr.app N0 N1q
  refine go (fun _ k => st1.trans k) ?_
  show Run _ _ _ _ _ _ _ T1 (mkF m 7 #[.val (.ref a0), .val (.ref a1), .val (.int (1 : Int32))] [])
  refine retV X1 hx Bd.returns (hb hby d8_7) hlk (by decide) (by decide) ?_
  show Q8 Z a0 a1 h0 n0 _ T1.heap _
  exact ⟨rfl, N1, KK1, Ft1, Fl1, Fz1, Fp1⟩
theorem d11_0 : decode prog_32_method_18_code 0 = .ok (.aload_n 0, 1) := by decide +kernel
theorem d11_1 : decode prog_32_method_18_code 1 = .ok (.getfield 28, 3) := by decide +kernel
theorem d11_4 : decode prog_32_method_18_code 4 = .ok (.aload_n 0, 1) := by decide +kernel
theorem d11_5 : decode prog_32_method_18_code 5 = .ok (.getfield 12, 3) := by decide +kernel
theorem d11_8 : decode prog_32_method_18_code 8 = .ok (.invokevirtual 31, 3) := by decide +kernel
theorem d11_11 : decode prog_32_method_18_code 11 = .ok (.if_icmp .ge 33, 3) := by decide +kernel
theorem d11_14 : decode prog_32_method_18_code 14 = .ok (.aload_n 0, 1) := by decide +kernel
theorem d11_15 : decode prog_32_method_18_code 15 = .ok (.getfield 12, 3) := by decide +kernel
theorem d11_18 : decode prog_32_method_18_code 18 = .ok (.aload_n 0, 1) := by decide +kernel
theorem d11_19 : decode prog_32_method_18_code 19 = .ok (.getfield 28, 3) := by decide +kernel
theorem d11_22 : decode prog_32_method_18_code 22 = .ok (.invokevirtual 61, 3) := by decide +kernel
theorem d11_25 : decode prog_32_method_18_code 25 = .ok (.invokestatic 126, 3) := by decide +kernel
theorem d11_28 : decode prog_32_method_18_code 28 = .ok (.ifCond .eq 16, 3) := by decide +kernel
theorem d11_44 : decode prog_32_method_18_code 44 = .ok (.return_, 1) := by decide +kernel
theorem pd_28I29C : parseMethodDescriptor "(I)C" = some ⟨[.int], some .char⟩ := by decide +kernel
theorem pd_28I29Z : parseMethodDescriptor "(I)Z" = some ⟨[.int], some .boolean⟩ := by decide +kernel
theorem ef_11x (m : MethodId) (x0 : Addr) : entryFrame m #[(.ref x0)] 1 = mkF m 0 #[.val (.ref x0)] [] := by first | (simp [entryFrame, mkF, argsToLocals, Value.category]; done) | rfl
def Q11x (Z : State) (a0 : Addr) (cs : Int32) (wf : Value) (s1 b : Addr) (x0 x1 y : Int32) (h0 : Heap) (n0 : Nat) (v : Option Value) (h : Heap) (L : List Loc) : Prop := v = none ∧ Fr n0 L ∧ Keep h0 h [a0] ∧ Fld Z h a0 "com/example/settle/settle/io/LineCursor" "text" "Ljava/lang/String;" (.ref s1) ∧ Fld Z h a0 "com/example/settle/settle/io/LineCursor" "position" "I" (.int (0 : Int32))
set_option maxRecDepth 65536 in
set_option maxHeartbeats 40000000 in
theorem rm11x (l : Launch) (Z : State) (aw : Array Value) (hw : ∀ d ∈ tables_1, d.before aw Z = true) (ws : List Jvm.Cond) (a0 : Addr) (cs : Int32) (wf : Value) (s1 b : Addr) (x0 x1 y : Int32) (h0 : Heap) (n0 : Nat) (Z0 : n0 ≤ h0.size) (O0 : Old Z n0 h0) (S_cs : Sta Z Z.heap "java/lang/String" "COMPACT_STRINGS" "Z" (.int cs)) (hcs : ¬ (cs = (0 : Int32))) (S_sf : Sta Z Z.heap "jdk/internal/util/Preconditions" "SIOOBE_FORMATTER" "Ljava/util/function/BiFunction;" wf) (hwf : wf.isRef = true) (S_ad : Sta Z Z.heap "java/lang/StringUTF16" "$assertionsDisabled" "Z" (.int (1 : Int32))) (S_hi : Sta Z Z.heap "java/lang/StringUTF16" "HI_BYTE_SHIFT" "I" (.int (0 : Int32))) (S_lo : Sta Z Z.heap "java/lang/StringUTF16" "LO_BYTE_SHIFT" "I" (.int (8 : Int32))) (E_a0 : Exa Z h0 a0 "com/example/settle/settle/io/LineCursor") (F_t : Fld Z h0 a0 "com/example/settle/settle/io/LineCursor" "text" "Ljava/lang/String;" (.ref s1)) (F_p : Fld Z h0 a0 "com/example/settle/settle/io/LineCursor" "position" "I" (.int (0 : Int32))) (g_a0 : n0 ≤ a0) (E_s : Exa Z h0 s1 "java/lang/String") (F_c : Fld Z h0 s1 "java/lang/String" "coder" "B" (.int (0 : Int32))) (F_v : Fld Z h0 s1 "java/lang/String" "value" "[B" (.ref b)) (A_b : Ary Z h0 b .byte [(.int x0), (.int x1)]) (n_s : a0 ≠ s1) (n_b : a0 ≠ b) (hy : (nar .char (((x0 &&& (255 : Int32))).toUInt32.toUInt16.toUInt32.toInt32)) = y) (hbk : own_blank y = (0 : Int32)) :
    MetFree l (⟨"com/example/settle/settle/io/LineCursor", "skipBlanks", "()V"⟩ : MethodName) (head1 (Jvm.Cond.code (⟨"com/example/settle/settle/io/LineCursor", "skipBlanks", "()V"⟩ : MethodName) prog_32_method_18_code 1 none :: ws) ({ frames := 4, cells := 0, slots := 0, locals := 53 } : Room)) (fun a U => a = #[(.ref a0)] ∧ Z.Warmed39 U.vm ∧ U.heap = h0) (fun _ _ _ _ _ => True) (fun _ U o U' => ∃ v L, o = .returned v ∧ Q11x Z a0 cs wf s1 b x0 x1 y h0 n0 v U'.heap L ∧ FrameEnd U o U' L ({ frames := 4, cells := 0, slots := 0, locals := 53 } : Room).cells ({ frames := 4, cells := 0, slots := 0, locals := 53 } : Room).slots) := by
  refine MetFree.of_bodySF (plainFor_of_name pn_1) hisR ?_
  intro p e s m args below meth c s₁ Bd hml0 hP hK
  obtain ⟨rfl, hZ, hh⟩ := hP
  have hx := Bd.exec
  have hby := Bd.bytes
  have hml : c.maxLocals = 1 := hml0
  have hown : s.vm.findClass "com/example/settle/settle/io/LineCursor" = some m.cls := findClass_of_methodNamed Bd.named
  have hnm := (name_of_methodNamed Bd.named Bd.method).1
  have hlk : meth.locks = false := BodyLoose.notSynchronized Bd
  have X0 : Stand p l e ({ frames := 4, cells := 0, slots := 0, locals := 53 } : Room) s m #[(.ref a0)] below meth c s₁ [] 0 0 := Stand.of_body Bd
  have e0 : s₁.heap = h0 := by rw [← hh, Bd.state]; rfl
  have N0 := Fr.nil n0
  show Run p e s below (Q11x Z a0 cs wf s1 b x0 x1 y h0 n0) ({ frames := 4, cells := 0, slots := 0, locals := 53 } : Room).cells ({ frames := 4, cells := 0, slots := 0, locals := 53 } : Room).slots s₁ (entryFrame m #[(.ref a0)] 1)
  rw [ef_11x]
  show Run _ _ _ _ _ _ _ s₁ (mkF m 0 #[.val (.ref a0)] [])
  refine go (T' := s₁) (f' := (mkF m 1 #[.val (.ref a0)] [(.ref a0)])) (by intro t k; exact XS.aloadN X0.here hx rfl (hb hby d11_0) rfl rfl k) ?_
  obtain ⟨T1, X1, e1, st1⟩ := getF X0 hx hZ hown (host := "") (Or.inl (hw _ (List.mem_of_getElem? (i := 59) rfl))) Via.refl e0 F_p (g := (mkF m 1 #[.val (.ref a0)] [(.ref a0)])) rfl rfl (hb hby d11_1)
  refine go st1 ?_
  show Run _ _ _ _ _ _ _ T1 (mkF m 4 #[.val (.ref a0)] [(.int (0 : Int32))])
  refine go (T' := T1) (f' := (mkF m 5 #[.val (.ref a0)] [(.ref a0), (.int (0 : Int32))])) (by intro t k; exact XS.aloadN X1.here hx rfl (hb hby d11_4) rfl rfl k) ?_
  obtain ⟨T2, X2, e2, st2⟩ := getF X1 hx hZ hown (host := "") (Or.inl (hw _ (List.mem_of_getElem? (i := 44) rfl))) Via.refl e1 F_t (g := (mkF m 5 #[.val (.ref a0)] [(.ref a0), (.int (0 : Int32))])) rfl rfl (hb hby d11_5)
  refine go st2 ?_
  show Run _ _ _ _ _ _ _ T2 (mkF m 8 #[.val (.ref a0)] [(.ref s1), (.int (0 : Int32))])
  obtain ⟨cq3, kq3, q3a, q3b, q3c⟩ := isOf hZ e2 E_s
  obtain ⟨_, _, ⟨T3, Lz3, kz3, nz3⟩, -, X3, ⟨Lc3, hQ3, lz3, yz3, zz3⟩, st3⟩ := X2.virtualBack hx (y := (⟨"java/lang/String", "length", "()I"⟩ : MethodName)) (z := (⟨"java/lang/String", "length", "()I"⟩ : MethodName)) hown (mvT hZ (hw _ (List.mem_of_getElem? (i := 61) rfl))) (mvT hZ (hw _ (List.mem_of_getElem? (i := 62) rfl))) (notFace_of_selects (args := #[]) (mvT hZ (hw _ (List.mem_of_getElem? (i := 64) rfl)))) (mvT hZ (hw _ (List.mem_of_getElem? (i := 64) rfl))) (mvT hZ (hw _ (List.mem_of_getElem? (i := 63) rfl))) (by decide) (backOf (W := 1) (rm12 l Z aw hw [] s1 cs b [(.int x0), (.int x1)] (2 : Int32) h0 n0 Z0 O0 S_cs hcs E_s F_c F_v A_b rfl) hZ (hw _ (List.mem_of_getElem? (i := 65) rfl)) (hw _ (List.mem_of_getElem? (i := 10) rfl)) (by decide) (by decide)) q3a q3c (g := (mkF m 8 #[.val (.ref a0)] [(.ref s1), (.int (0 : Int32))])) rfl (by rw [hml]; rfl) (Steps.refl _) (argsL := []) (rest := [(.int (0 : Int32))]) (lenOf pd_2829I rfl) rfl (by show 2 * 0 + _ ≤ _; exact Nat.le_of_eq rfl) (hb hby d11_8) (fun _ _ => ⟨rfl, e2, (by decide : 0 + 0 ≤ _), (by decide : 0 + 0 ≤ _)⟩)
  dsimp only [Pt.U, Pt.locs, Pt.cells, Pt.slots] at X3 lz3 yz3 zz3 st3 hQ3
  subst lz3 yz3 zz3
  obtain ⟨rfl, N3q, e3⟩ := hQ3
  have N3 := Fr.app N0 N3q
  refine go (fun _ k => st3.trans k) ?_
  show Run _ _ _ _ _ _ _ T3 (mkF m 11 #[.val (.ref a0)] [(.int (2 : Int32)), (.int (0 : Int32))])
  refine go (T' := T3) (f' := (mkF m 14 #[.val (.ref a0)] [])) (by intro t k; exact XS.icmpNo X3.here hx rfl (hb hby d11_11) rfl (tlt (by decide : (0 : Int32) < (2 : Int32))).2.1 k) ?_
  refine go (T' := T3) (f' := (mkF m 15 #[.val (.ref a0)] [(.ref a0)])) (by intro t k; exact XS.aloadN X3.here hx rfl (hb hby d11_14) rfl rfl k) ?_
  obtain ⟨T4, X4, e4, st4⟩ := getF X3 hx hZ hown (host := "") (Or.inl (hw _ (List.mem_of_getElem? (i := 44) rfl))) Via.refl e3 F_t (g := (mkF m 15 #[.val (.ref a0)] [(.ref a0)])) rfl rfl (hb hby d11_15)
  refine go st4 ?_
  show Run _ _ _ _ _ _ _ T4 (mkF m 18 #[.val (.ref a0)] [(.ref s1)])
  refine go (T' := T4) (f' := (mkF m 19 #[.val (.ref a0)] [(.ref a0), (.ref s1)])) (by intro t k; exact XS.aloadN X4.here hx rfl (hb hby d11_18) rfl rfl k) ?_
  obtain ⟨T5, X5, e5, st5⟩ := getF X4 hx hZ hown (host := "") (Or.inl (hw _ (List.mem_of_getElem? (i := 59) rfl))) Via.refl e4 F_p (g := (mkF m 19 #[.val (.ref a0)] [(.ref a0), (.ref s1)])) rfl rfl (hb hby d11_19)
  refine go st5 ?_
  show Run _ _ _ _ _ _ _ T5 (mkF m 22 #[.val (.ref a0)] [(.int (0 : Int32)), (.ref s1)])
  obtain ⟨cq6, kq6, q6a, q6b, q6c⟩ := isOf hZ e5 E_s
  obtain ⟨_, _, ⟨T6, Lz6, kz6, nz6⟩, -, X6, ⟨Lc6, hQ6, lz6, yz6, zz6⟩, st6⟩ := X5.virtualBack hx (y := (⟨"java/lang/String", "charAt", "(I)C"⟩ : MethodName)) (z := (⟨"java/lang/String", "charAt", "(I)C"⟩ : MethodName)) hown (mvT hZ (hw _ (List.mem_of_getElem? (i := 71) rfl))) (mvT hZ (hw _ (List.mem_of_getElem? (i := 72) rfl))) (notFace_of_selects (args := #[]) (mvT hZ (hw _ (List.mem_of_getElem? (i := 74) rfl)))) (mvT hZ (hw _ (List.mem_of_getElem? (i := 74) rfl))) (mvT hZ (hw _ (List.mem_of_getElem? (i := 73) rfl))) (by decide) (backOf (W := 0) (rm14 l Z aw hw [] s1 (0 : Int32) cs wf b [(.int x0), (.int x1)] (2 : Int32) x0 y h0 n0 Z0 O0 S_cs hcs S_sf hwf E_s F_c F_v A_b rfl (by decide) (by decide) rfl hy) hZ (hw _ (List.mem_of_getElem? (i := 75) rfl)) (hw _ (List.mem_of_getElem? (i := 10) rfl)) (by decide) (by decide)) q6a q6c (g := (mkF m 22 #[.val (.ref a0)] [(.int (0 : Int32)), (.ref s1)])) rfl (by rw [hml]; rfl) (Steps.refl _) (argsL := [(.int (0 : Int32))]) (rest := []) (lenOf pd_28I29C rfl) rfl (by show 2 * 0 + _ ≤ _; exact Nat.le_of_eq rfl) (hb hby d11_22) (fun _ _ => ⟨rfl, e5, (by decide : 0 + 0 ≤ _), (by decide : 0 + 0 ≤ _)⟩)
  dsimp only [Pt.U, Pt.locs, Pt.cells, Pt.slots] at X6 lz6 yz6 zz6 st6 hQ6
  subst lz6 yz6 zz6
  obtain ⟨rfl, N6q, e6⟩ := hQ6
  have N6 := Fr.app N3 N6q
  refine go (fun _ k => st6.trans k) ?_
  show Run _ _ _ _ _ _ _ T6 (mkF m 25 #[.val (.ref a0)] [(.int y)])
  obtain ⟨_, _, ⟨T7, Lz7, kz7, nz7⟩, -, X7, ⟨Lc7, hQ7, lz7, yz7, zz7⟩, st7⟩ := Jvm.LawKit.callS X6 hx (y := (⟨"com/example/settle/settle/io/LineCursor", "isBlank", "(I)Z"⟩ : MethodName)) hown (mvT hZ (hw _ (List.mem_of_getElem? (i := 93) rfl))) (mvT hZ (hw _ (List.mem_of_getElem? (i := 1) rfl))) (mvT hZ (hw _ (List.mem_of_getElem? (i := 2) rfl))) (mvT hZ (hw _ (List.mem_of_getElem? (i := 3) rfl))) (by decide) (backOf (W := 0) (rm1 l Z aw hw [] y (0 : Int32) h0 n0 Z0 hbk) hZ (hw _ (List.mem_of_getElem? (i := 3) rfl)) (hw _ (List.mem_of_getElem? (i := 2) rfl)) (by decide) (by decide)) (g := (mkF m 25 #[.val (.ref a0)] [(.int y)])) rfl (by rw [hml]; rfl) (argsL := [(.int y)]) (rest := []) (lenOf pd_28I29Z rfl) rfl (by show 2 * 0 + _ ≤ _; exact Nat.le_of_eq rfl) (hb hby d11_25) (fun _ _ => ⟨rfl, e6, (by decide : 0 + 0 ≤ _), (by decide : 0 + 0 ≤ _)⟩)
  dsimp only [Pt.U, Pt.locs, Pt.cells, Pt.slots] at X7 lz7 yz7 zz7 st7 hQ7
  subst lz7 yz7 zz7
  obtain ⟨rfl, N7q, e7⟩ := hQ7
  have N7 := Fr.app N6 N7q
  refine go st7 ?_
  show Run _ _ _ _ _ _ _ T7 (mkF m 28 #[.val (.ref a0)] [(.int (0 : Int32))])
  refine go (T' := T7) (f' := (mkF m 44 #[.val (.ref a0)] [])) (by intro t k; exact XS.ifYes X7.here hx rfl (pc0 := 28) (pc' := 44) rfl (hb hby d11_28) rfl ((if0 _ _).trans (teq (rfl : (0 : Int32) = (0 : Int32))).1) (by decide) (by decide) k) ?_
  refine retV X7 hx Bd.returns (hb hby d11_44) hlk (by decide) (by decide) ?_
  show Q11x Z a0 cs wf s1 b x0 x1 y h0 n0 _ T7.heap _
  rw [e7]
  exact ⟨rfl, N7, (Keep.refl _ _), F_t, F_p⟩
theorem d11_31 : decode prog_32_method_18_code 31 = .ok (.aload_n 0, 1) := by decide +kernel
theorem d11_32 : decode prog_32_method_18_code 32 = .ok (.dup, 1) := by decide +kernel
theorem d11_33 : decode prog_32_method_18_code 33 = .ok (.getfield 28, 3) := by decide +kernel
theorem d11_36 : decode prog_32_method_18_code 36 = .ok (.iconst 1, 1) := by decide +kernel
theorem d11_37 : decode prog_32_method_18_code 37 = .ok (.iadd, 1) := by decide +kernel
theorem d11_38 : decode prog_32_method_18_code 38 = .ok (.putfield 28, 3) := by decide +kernel
theorem d11_41 : decode prog_32_method_18_code 41 = .ok (.goto (-41), 3) := by decide +kernel
theorem ef_11b (m : MethodId) (x0 : Addr) : entryFrame m #[(.ref x0)] 1 = mkF m 0 #[.val (.ref x0)] [] := by first | (simp [entryFrame, mkF, argsToLocals, Value.category]; done) | rfl
def Q11b (Z : State) (a0 : Addr) (cs : Int32) (wf : Value) (s1 b : Addr) (x0 x1 y : Int32) (h0 : Heap) (n0 : Nat) (v : Option Value) (h : Heap) (L : List Loc) : Prop := v = none ∧ Fr n0 L ∧ Keep h0 h [a0] ∧ Fld Z h a0 "com/example/settle/settle/io/LineCursor" "text" "Ljava/lang/String;" (.ref s1) ∧ Fld Z h a0 "com/example/settle/settle/io/LineCursor" "position" "I" (.int (1 : Int32))
set_option maxRecDepth 65536 in
set_option maxHeartbeats 40000000 in
theorem rm11b (l : Launch) (Z : State) (aw : Array Value) (hw : ∀ d ∈ tables_1, d.before aw Z = true) (ws : List Jvm.Cond) (a0 : Addr) (cs : Int32) (wf : Value) (s1 b : Addr) (x0 x1 y : Int32) (h0 : Heap) (n0 : Nat) (Z0 : n0 ≤ h0.size) (O0 : Old Z n0 h0) (S_cs : Sta Z Z.heap "java/lang/String" "COMPACT_STRINGS" "Z" (.int cs)) (hcs : ¬ (cs = (0 : Int32))) (S_sf : Sta Z Z.heap "jdk/internal/util/Preconditions" "SIOOBE_FORMATTER" "Ljava/util/function/BiFunction;" wf) (hwf : wf.isRef = true) (S_ad : Sta Z Z.heap "java/lang/StringUTF16" "$assertionsDisabled" "Z" (.int (1 : Int32))) (S_hi : Sta Z Z.heap "java/lang/StringUTF16" "HI_BYTE_SHIFT" "I" (.int (0 : Int32))) (S_lo : Sta Z Z.heap "java/lang/StringUTF16" "LO_BYTE_SHIFT" "I" (.int (8 : Int32))) (E_a0 : Exa Z h0 a0 "com/example/settle/settle/io/LineCursor") (F_t : Fld Z h0 a0 "com/example/settle/settle/io/LineCursor" "text" "Ljava/lang/String;" (.ref s1)) (F_p : Fld Z h0 a0 "com/example/settle/settle/io/LineCursor" "position" "I" (.int (0 : Int32))) (g_a0 : n0 ≤ a0) (E_s : Exa Z h0 s1 "java/lang/String") (F_c : Fld Z h0 s1 "java/lang/String" "coder" "B" (.int (0 : Int32))) (F_v : Fld Z h0 s1 "java/lang/String" "value" "[B" (.ref b)) (A_b : Ary Z h0 b .byte [(.int x0), (.int x1)]) (n_s : a0 ≠ s1) (n_b : a0 ≠ b) (hy : (nar .char (((x0 &&& (255 : Int32))).toUInt32.toUInt16.toUInt32.toInt32)) = y) (hbk : own_blank y = (1 : Int32)) (hx1 : (nar .char (((x1 &&& (255 : Int32))).toUInt32.toUInt16.toUInt32.toInt32)) = (120 : Int32)) :
    MetFree l (⟨"com/example/settle/settle/io/LineCursor", "skipBlanks", "()V"⟩ : MethodName) (head1 (Jvm.Cond.code (⟨"com/example/settle/settle/io/LineCursor", "skipBlanks", "()V"⟩ : MethodName) prog_32_method_18_code 1 none :: ws) ({ frames := 4, cells := 0, slots := 0, locals := 53 } : Room)) (fun a U => a = #[(.ref a0)] ∧ Z.Warmed39 U.vm ∧ U.heap = h0) (fun _ _ _ _ _ => True) (fun _ U o U' => ∃ v L, o = .returned v ∧ Q11b Z a0 cs wf s1 b x0 x1 y h0 n0 v U'.heap L ∧ FrameEnd U o U' L ({ frames := 4, cells := 0, slots := 0, locals := 53 } : Room).cells ({ frames := 4, cells := 0, slots := 0, locals := 53 } : Room).slots) := by
  refine MetFree.of_bodySF (plainFor_of_name pn_1) hisR ?_
  intro p e s m args below meth c s₁ Bd hml0 hP hK
  obtain ⟨rfl, hZ, hh⟩ := hP
  have hx := Bd.exec
  have hby := Bd.bytes
  have hml : c.maxLocals = 1 := hml0
  have hown : s.vm.findClass "com/example/settle/settle/io/LineCursor" = some m.cls := findClass_of_methodNamed Bd.named
  have hnm := (name_of_methodNamed Bd.named Bd.method).1
  have hlk : meth.locks = false := BodyLoose.notSynchronized Bd
  have X0 : Stand p l e ({ frames := 4, cells := 0, slots := 0, locals := 53 } : Room) s m #[(.ref a0)] below meth c s₁ [] 0 0 := Stand.of_body Bd
  have e0 : s₁.heap = h0 := by rw [← hh, Bd.state]; rfl
  have N0 := Fr.nil n0
  show Run p e s below (Q11b Z a0 cs wf s1 b x0 x1 y h0 n0) ({ frames := 4, cells := 0, slots := 0, locals := 53 } : Room).cells ({ frames := 4, cells := 0, slots := 0, locals := 53 } : Room).slots s₁ (entryFrame m #[(.ref a0)] 1)
  rw [ef_11b]
  show Run _ _ _ _ _ _ _ s₁ (mkF m 0 #[.val (.ref a0)] [])
  refine go (T' := s₁) (f' := (mkF m 1 #[.val (.ref a0)] [(.ref a0)])) (by intro t k; exact XS.aloadN X0.here hx rfl (hb hby d11_0) rfl rfl k) ?_
  obtain ⟨T1, X1, e1, st1⟩ := getF X0 hx hZ hown (host := "") (Or.inl (hw _ (List.mem_of_getElem? (i := 59) rfl))) Via.refl e0 F_p (g := (mkF m 1 #[.val (.ref a0)] [(.ref a0)])) rfl rfl (hb hby d11_1)
  refine go st1 ?_
  show Run _ _ _ _ _ _ _ T1 (mkF m 4 #[.val (.ref a0)] [(.int (0 : Int32))])
  refine go (T' := T1) (f' := (mkF m 5 #[.val (.ref a0)] [(.ref a0), (.int (0 : Int32))])) (by intro t k; exact XS.aloadN X1.here hx rfl (hb hby d11_4) rfl rfl k) ?_
  obtain ⟨T2, X2, e2, st2⟩ := getF X1 hx hZ hown (host := "") (Or.inl (hw _ (List.mem_of_getElem? (i := 44) rfl))) Via.refl e1 F_t (g := (mkF m 5 #[.val (.ref a0)] [(.ref a0), (.int (0 : Int32))])) rfl rfl (hb hby d11_5)
  refine go st2 ?_
  show Run _ _ _ _ _ _ _ T2 (mkF m 8 #[.val (.ref a0)] [(.ref s1), (.int (0 : Int32))])
  obtain ⟨cq3, kq3, q3a, q3b, q3c⟩ := isOf hZ e2 E_s
  obtain ⟨_, _, ⟨T3, Lz3, kz3, nz3⟩, -, X3, ⟨Lc3, hQ3, lz3, yz3, zz3⟩, st3⟩ := X2.virtualBack hx (y := (⟨"java/lang/String", "length", "()I"⟩ : MethodName)) (z := (⟨"java/lang/String", "length", "()I"⟩ : MethodName)) hown (mvT hZ (hw _ (List.mem_of_getElem? (i := 61) rfl))) (mvT hZ (hw _ (List.mem_of_getElem? (i := 62) rfl))) (notFace_of_selects (args := #[]) (mvT hZ (hw _ (List.mem_of_getElem? (i := 64) rfl)))) (mvT hZ (hw _ (List.mem_of_getElem? (i := 64) rfl))) (mvT hZ (hw _ (List.mem_of_getElem? (i := 63) rfl))) (by decide) (backOf (W := 1) (rm12 l Z aw hw [] s1 cs b [(.int x0), (.int x1)] (2 : Int32) h0 n0 Z0 O0 S_cs hcs E_s F_c F_v A_b rfl) hZ (hw _ (List.mem_of_getElem? (i := 65) rfl)) (hw _ (List.mem_of_getElem? (i := 10) rfl)) (by decide) (by decide)) q3a q3c (g := (mkF m 8 #[.val (.ref a0)] [(.ref s1), (.int (0 : Int32))])) rfl (by rw [hml]; rfl) (Steps.refl _) (argsL := []) (rest := [(.int (0 : Int32))]) (lenOf pd_2829I rfl) rfl (by show 2 * 0 + _ ≤ _; exact Nat.le_of_eq rfl) (hb hby d11_8) (fun _ _ => ⟨rfl, e2, (by decide : 0 + 0 ≤ _), (by decide : 0 + 0 ≤ _)⟩)
  dsimp only [Pt.U, Pt.locs, Pt.cells, Pt.slots] at X3 lz3 yz3 zz3 st3 hQ3
  subst lz3 yz3 zz3
  obtain ⟨rfl, N3q, e3⟩ := hQ3
  have N3 := Fr.app N0 N3q
  refine go (fun _ k => st3.trans k) ?_
  show Run _ _ _ _ _ _ _ T3 (mkF m 11 #[.val (.ref a0)] [(.int (2 : Int32)), (.int (0 : Int32))])
  refine go (T' := T3) (f' := (mkF m 14 #[.val (.ref a0)] [])) (by intro t k; exact XS.icmpNo X3.here hx rfl (hb hby d11_11) rfl (tlt (by decide : (0 : Int32) < (2 : Int32))).2.1 k) ?_
  refine go (T' := T3) (f' := (mkF m 15 #[.val (.ref a0)] [(.ref a0)])) (by intro t k; exact XS.aloadN X3.here hx rfl (hb hby d11_14) rfl rfl k) ?_
  obtain ⟨T4, X4, e4, st4⟩ := getF X3 hx hZ hown (host := "") (Or.inl (hw _ (List.mem_of_getElem? (i := 44) rfl))) Via.refl e3 F_t (g := (mkF m 15 #[.val (.ref a0)] [(.ref a0)])) rfl rfl (hb hby d11_15)
  refine go st4 ?_
  show Run _ _ _ _ _ _ _ T4 (mkF m 18 #[.val (.ref a0)] [(.ref s1)])
  refine go (T' := T4) (f' := (mkF m 19 #[.val (.ref a0)] [(.ref a0), (.ref s1)])) (by intro t k; exact XS.aloadN X4.here hx rfl (hb hby d11_18) rfl rfl k) ?_
  obtain ⟨T5, X5, e5, st5⟩ := getF X4 hx hZ hown (host := "") (Or.inl (hw _ (List.mem_of_getElem? (i := 59) rfl))) Via.refl e4 F_p (g := (mkF m 19 #[.val (.ref a0)] [(.ref a0), (.ref s1)])) rfl rfl (hb hby d11_19)
  refine go st5 ?_
  show Run _ _ _ _ _ _ _ T5 (mkF m 22 #[.val (.ref a0)] [(.int (0 : Int32)), (.ref s1)])
  obtain ⟨cq6, kq6, q6a, q6b, q6c⟩ := isOf hZ e5 E_s
  obtain ⟨_, _, ⟨T6, Lz6, kz6, nz6⟩, -, X6, ⟨Lc6, hQ6, lz6, yz6, zz6⟩, st6⟩ := X5.virtualBack hx (y := (⟨"java/lang/String", "charAt", "(I)C"⟩ : MethodName)) (z := (⟨"java/lang/String", "charAt", "(I)C"⟩ : MethodName)) hown (mvT hZ (hw _ (List.mem_of_getElem? (i := 71) rfl))) (mvT hZ (hw _ (List.mem_of_getElem? (i := 72) rfl))) (notFace_of_selects (args := #[]) (mvT hZ (hw _ (List.mem_of_getElem? (i := 74) rfl)))) (mvT hZ (hw _ (List.mem_of_getElem? (i := 74) rfl))) (mvT hZ (hw _ (List.mem_of_getElem? (i := 73) rfl))) (by decide) (backOf (W := 0) (rm14 l Z aw hw [] s1 (0 : Int32) cs wf b [(.int x0), (.int x1)] (2 : Int32) x0 y h0 n0 Z0 O0 S_cs hcs S_sf hwf E_s F_c F_v A_b rfl (by decide) (by decide) rfl hy) hZ (hw _ (List.mem_of_getElem? (i := 75) rfl)) (hw _ (List.mem_of_getElem? (i := 10) rfl)) (by decide) (by decide)) q6a q6c (g := (mkF m 22 #[.val (.ref a0)] [(.int (0 : Int32)), (.ref s1)])) rfl (by rw [hml]; rfl) (Steps.refl _) (argsL := [(.int (0 : Int32))]) (rest := []) (lenOf pd_28I29C rfl) rfl (by show 2 * 0 + _ ≤ _; exact Nat.le_of_eq rfl) (hb hby d11_22) (fun _ _ => ⟨rfl, e5, (by decide : 0 + 0 ≤ _), (by decide : 0 + 0 ≤ _)⟩)
  dsimp only [Pt.U, Pt.locs, Pt.cells, Pt.slots] at X6 lz6 yz6 zz6 st6 hQ6
  subst lz6 yz6 zz6
  obtain ⟨rfl, N6q, e6⟩ := hQ6
  have N6 := Fr.app N3 N6q
  refine go (fun _ k => st6.trans k) ?_
  show Run _ _ _ _ _ _ _ T6 (mkF m 25 #[.val (.ref a0)] [(.int y)])
  obtain ⟨_, _, ⟨T7, Lz7, kz7, nz7⟩, -, X7, ⟨Lc7, hQ7, lz7, yz7, zz7⟩, st7⟩ := Jvm.LawKit.callS X6 hx (y := (⟨"com/example/settle/settle/io/LineCursor", "isBlank", "(I)Z"⟩ : MethodName)) hown (mvT hZ (hw _ (List.mem_of_getElem? (i := 93) rfl))) (mvT hZ (hw _ (List.mem_of_getElem? (i := 1) rfl))) (mvT hZ (hw _ (List.mem_of_getElem? (i := 2) rfl))) (mvT hZ (hw _ (List.mem_of_getElem? (i := 3) rfl))) (by decide) (backOf (W := 0) (rm1 l Z aw hw [] y (1 : Int32) h0 n0 Z0 hbk) hZ (hw _ (List.mem_of_getElem? (i := 3) rfl)) (hw _ (List.mem_of_getElem? (i := 2) rfl)) (by decide) (by decide)) (g := (mkF m 25 #[.val (.ref a0)] [(.int y)])) rfl (by rw [hml]; rfl) (argsL := [(.int y)]) (rest := []) (lenOf pd_28I29Z rfl) rfl (by show 2 * 0 + _ ≤ _; exact Nat.le_of_eq rfl) (hb hby d11_25) (fun _ _ => ⟨rfl, e6, (by decide : 0 + 0 ≤ _), (by decide : 0 + 0 ≤ _)⟩)
  dsimp only [Pt.U, Pt.locs, Pt.cells, Pt.slots] at X7 lz7 yz7 zz7 st7 hQ7
  subst lz7 yz7 zz7
  obtain ⟨rfl, N7q, e7⟩ := hQ7
  have N7 := Fr.app N6 N7q
  refine go st7 ?_
  show Run _ _ _ _ _ _ _ T7 (mkF m 28 #[.val (.ref a0)] [(.int (1 : Int32))])
  refine go (T' := T7) (f' := (mkF m 31 #[.val (.ref a0)] [])) (by intro t k; exact XS.ifNo X7.here hx rfl (hb hby d11_28) rfl ((if0 _ _).trans (feq (by decide : ¬ ((1 : Int32) = (0 : Int32)))).1) k) ?_
  refine go (T' := T7) (f' := (mkF m 32 #[.val (.ref a0)] [(.ref a0)])) (by intro t k; exact XS.aloadN X7.here hx rfl (hb hby d11_31) rfl rfl k) ?_
  refine go (T' := T7) (f' := (mkF m 33 #[.val (.ref a0)] [(.ref a0), (.ref a0)])) (by intro t k; exact XS.dup X7.here hx rfl (hb hby d11_32) rfl rfl k) ?_
  obtain ⟨T8, X8, e8, st8⟩ := getF X7 hx hZ hown (host := "") (Or.inl (hw _ (List.mem_of_getElem? (i := 59) rfl))) Via.refl e7 F_p (g := (mkF m 33 #[.val (.ref a0)] [(.ref a0), (.ref a0)])) rfl rfl (hb hby d11_33)
  refine go st8 ?_
  show Run _ _ _ _ _ _ _ T8 (mkF m 36 #[.val (.ref a0)] [(.int (0 : Int32)), (.ref a0)])
  refine go (T' := T8) (f' := (mkF m 37 #[.val (.ref a0)] [(.int (1 : Int32)), (.int (0 : Int32)), (.ref a0)])) (by intro t k; exact XS.iconst X8.here hx rfl (hb hby d11_36) k) ?_
  refine go (T' := T8) (f' := (mkF m 38 #[.val (.ref a0)] [(.int (1 : Int32)), (.ref a0)])) (by intro t k; exact XS.iadd X8.here hx rfl (hb hby d11_37) rfl k) ?_
  obtain ⟨T9, h9, X9, e9, W9, st9⟩ := putF X8 hx hZ hown (host := "") (Or.inl (hw _ (List.mem_of_getElem? (i := 59) rfl))) Via.refl e8 F_p E_a0 (Or.inl (hw _ (List.mem_of_getElem? (i := 60) rfl))) (hw _ (List.mem_of_getElem? (i := 7) rfl)) (ty := .int) (by decide) rfl rfl (g := (mkF m 38 #[.val (.ref a0)] [(.int (1 : Int32)), (.ref a0)])) rfl rfl (hb hby d11_38)
  have K9 : Keep h0 h9 [a0] := Keep.of_wr W9
  have F9_a0_text := Fld.other W9 F_t (Or.inr (slot_ne (Or.inr (hw _ (List.mem_of_getElem? (i := 45) rfl))) (Or.inl (hw _ (List.mem_of_getElem? (i := 60) rfl))) (by decide) (t := (.object "java/lang/String")) (t' := .int) (by decide) (by decide)))
  have F9_a0_position : Fld Z h9 a0 "com/example/settle/settle/io/LineCursor" "position" "I" (.int (1 : Int32)) := F_p.same W9
  have N9 := Fr.snoc X9 N7 g_a0
  have E9_a0 := Exa.keep E_a0 K9
  have E9_s1 := Exa.keep E_s K9
  have F9_s1_coder := Fld.keep F_c K9 (ninS (Ne.symm n_s) nin0)
  have F9_s1_value := Fld.keep F_v K9 (ninS (Ne.symm n_s) nin0)
  have A9_b := Ary.keep A_b K9 (ninS (Ne.symm n_b) nin0)
  have O9 : Old Z n0 h9 := O0.keep K9 (allS g_a0 all0)
  have Z9 : n0 ≤ h9.size := Nat.le_trans Z0 K9.1
  have KK9 : Keep h0 h9 [a0] := (Keep.refl _ _).trans K9 (allS (Or.inl (List.mem_of_getElem? (i := 0) rfl)) all0)
  refine go st9 ?_
  show Run _ _ _ _ _ _ _ T9 (mkF m 41 #[.val (.ref a0)] [])
  refine go (T' := T9) (f' := (mkF m 0 #[.val (.ref a0)] [])) (by intro t k; exact XS.goto X9.here hx rfl (pc0 := 41) (pc' := 0) rfl (hb hby d11_41) (by decide) (by decide) k) ?_
  refine go (T' := T9) (f' := (mkF m 1 #[.val (.ref a0)] [(.ref a0)])) (by intro t k; exact XS.aloadN X9.here hx rfl (hb hby d11_0) rfl rfl k) ?_
  obtain ⟨T10, X10, e10, st10⟩ := getF X9 hx hZ hown (host := "") (Or.inl (hw _ (List.mem_of_getElem? (i := 59) rfl))) Via.refl e9 F9_a0_position (g := (mkF m 1 #[.val (.ref a0)] [(.ref a0)])) rfl rfl (hb hby d11_1)
  refine go st10 ?_
  show Run _ _ _ _ _ _ _ T10 (mkF m 4 #[.val (.ref a0)] [(.int (1 : Int32))])
  refine go (T' := T10) (f' := (mkF m 5 #[.val (.ref a0)] [(.ref a0), (.int (1 : Int32))])) (by intro t k; exact XS.aloadN X10.here hx rfl (hb hby d11_4) rfl rfl k) ?_
  obtain ⟨T11, X11, e11, st11⟩ := getF X10 hx hZ hown (host := "") (Or.inl (hw _ (List.mem_of_getElem? (i := 44) rfl))) Via.refl e10 F9_a0_text (g := (mkF m 5 #[.val (.ref a0)] [(.ref a0), (.int (1 : Int32))])) rfl rfl (hb hby d11_5)
  refine go st11 ?_
  show Run _ _ _ _ _ _ _ T11 (mkF m 8 #[.val (.ref a0)] [(.ref s1), (.int (1 : Int32))])
  obtain ⟨cq12, kq12, q12a, q12b, q12c⟩ := isOf hZ e11 E9_s1
  obtain ⟨_, _, ⟨T12, Lz12, kz12, nz12⟩, -, X12, ⟨Lc12, hQ12, lz12, yz12, zz12⟩, st12⟩ := X11.virtualBack hx (y := (⟨"java/lang/String", "length", "()I"⟩ : MethodName)) (z := (⟨"java/lang/String", "length", "()I"⟩ : MethodName)) hown (mvT hZ (hw _ (List.mem_of_getElem? (i := 61) rfl))) (mvT hZ (hw _ (List.mem_of_getElem? (i := 62) rfl))) (notFace_of_selects (args := #[]) (mvT hZ (hw _ (List.mem_of_getElem? (i := 64) rfl)))) (mvT hZ (hw _ (List.mem_of_getElem? (i := 64) rfl))) (mvT hZ (hw _ (List.mem_of_getElem? (i := 63) rfl))) (by decide) (backOf (W := 1) (rm12 l Z aw hw [] s1 cs b [(.int x0), (.int x1)] (2 : Int32) h9 n0 Z9 O9 S_cs hcs E9_s1 F9_s1_coder F9_s1_value A9_b rfl) hZ (hw _ (List.mem_of_getElem? (i := 65) rfl)) (hw _ (List.mem_of_getElem? (i := 10) rfl)) (by decide) (by decide)) q12a q12c (g := (mkF m 8 #[.val (.ref a0)] [(.ref s1), (.int (1 : Int32))])) rfl (by rw [hml]; rfl) (Steps.refl _) (argsL := []) (rest := [(.int (1 : Int32))]) (lenOf pd_2829I rfl) rfl (by show 2 * 0 + _ ≤ _; exact Nat.le_of_eq rfl) (hb hby d11_8) (fun _ _ => ⟨rfl, e11, (by decide : 0 + 0 ≤ _), (by decide : 0 + 0 ≤ _)⟩)
  dsimp only [Pt.U, Pt.locs, Pt.cells, Pt.slots] at X12 lz12 yz12 zz12 st12 hQ12
  subst lz12 yz12 zz12
  obtain ⟨rfl, N12q, e12⟩ := hQ12
  have N12 := Fr.app N9 N12q
  refine go (fun _ k => st12.trans k) ?_
  show Run _ _ _ _ _ _ _ T12 (mkF m 11 #[.val (.ref a0)] [(.int (2 : Int32)), (.int (1 : Int32))])
  refine go (T' := T12) (f' := (mkF m 14 #[.val (.ref a0)] [])) (by intro t k; exact XS.icmpNo X12.here hx rfl (hb hby d11_11) rfl (tlt (by decide : (1 : Int32) < (2 : Int32))).2.1 k) ?_
  refine go (T' := T12) (f' := (mkF m 15 #[.val (.ref a0)] [(.ref a0)])) (by intro t k; exact XS.aloadN X12.here hx rfl (hb hby d11_14) rfl rfl k) ?_
  obtain ⟨T13, X13, e13, st13⟩ := getF X12 hx hZ hown (host := "") (Or.inl (hw _ (List.mem_of_getElem? (i := 44) rfl))) Via.refl e12 F9_a0_text (g := (mkF m 15 #[.val (.ref a0)] [(.ref a0)])) rfl rfl (hb hby d11_15)
  refine go st13 ?_
  show Run _ _ _ _ _ _ _ T13 (mkF m 18 #[.val (.ref a0)] [(.ref s1)])
  refine go (T' := T13) (f' := (mkF m 19 #[.val (.ref a0)] [(.ref a0), (.ref s1)])) (by intro t k; exact XS.aloadN X13.here hx rfl (hb hby d11_18) rfl rfl k) ?_
  obtain ⟨T14, X14, e14, st14⟩ := getF X13 hx hZ hown (host := "") (Or.inl (hw _ (List.mem_of_getElem? (i := 59) rfl))) Via.refl e13 F9_a0_position (g := (mkF m 19 #[.val (.ref a0)] [(.ref a0), (.ref s1)])) rfl rfl (hb hby d11_19)
  refine go st14 ?_
  show Run _ _ _ _ _ _ _ T14 (mkF m 22 #[.val (.ref a0)] [(.int (1 : Int32)), (.ref s1)])
  obtain ⟨cq15, kq15, q15a, q15b, q15c⟩ := isOf hZ e14 E9_s1
  obtain ⟨_, _, ⟨T15, Lz15, kz15, nz15⟩, -, X15, ⟨Lc15, hQ15, lz15, yz15, zz15⟩, st15⟩ := X14.virtualBack hx (y := (⟨"java/lang/String", "charAt", "(I)C"⟩ : MethodName)) (z := (⟨"java/lang/String", "charAt", "(I)C"⟩ : MethodName)) hown (mvT hZ (hw _ (List.mem_of_getElem? (i := 71) rfl))) (mvT hZ (hw _ (List.mem_of_getElem? (i := 72) rfl))) (notFace_of_selects (args := #[]) (mvT hZ (hw _ (List.mem_of_getElem? (i := 74) rfl)))) (mvT hZ (hw _ (List.mem_of_getElem? (i := 74) rfl))) (mvT hZ (hw _ (List.mem_of_getElem? (i := 73) rfl))) (by decide) (backOf (W := 0) (rm14 l Z aw hw [] s1 (1 : Int32) cs wf b [(.int x0), (.int x1)] (2 : Int32) x1 (120 : Int32) h9 n0 Z9 O9 S_cs hcs S_sf hwf E9_s1 F9_s1_coder F9_s1_value A9_b rfl (by decide) (by decide) rfl hx1) hZ (hw _ (List.mem_of_getElem? (i := 75) rfl)) (hw _ (List.mem_of_getElem? (i := 10) rfl)) (by decide) (by decide)) q15a q15c (g := (mkF m 22 #[.val (.ref a0)] [(.int (1 : Int32)), (.ref s1)])) rfl (by rw [hml]; rfl) (Steps.refl _) (argsL := [(.int (1 : Int32))]) (rest := []) (lenOf pd_28I29C rfl) rfl (by show 2 * 0 + _ ≤ _; exact Nat.le_of_eq rfl) (hb hby d11_22) (fun _ _ => ⟨rfl, e14, (by decide : 0 + 0 ≤ _), (by decide : 0 + 0 ≤ _)⟩)
  dsimp only [Pt.U, Pt.locs, Pt.cells, Pt.slots] at X15 lz15 yz15 zz15 st15 hQ15
  subst lz15 yz15 zz15
  obtain ⟨rfl, N15q, e15⟩ := hQ15
  have N15 := Fr.app N12 N15q
  refine go (fun _ k => st15.trans k) ?_
  show Run _ _ _ _ _ _ _ T15 (mkF m 25 #[.val (.ref a0)] [(.int (120 : Int32))])
  obtain ⟨_, _, ⟨T16, Lz16, kz16, nz16⟩, -, X16, ⟨Lc16, hQ16, lz16, yz16, zz16⟩, st16⟩ := Jvm.LawKit.callS X15 hx (y := (⟨"com/example/settle/settle/io/LineCursor", "isBlank", "(I)Z"⟩ : MethodName)) hown (mvT hZ (hw _ (List.mem_of_getElem? (i := 93) rfl))) (mvT hZ (hw _ (List.mem_of_getElem? (i := 1) rfl))) (mvT hZ (hw _ (List.mem_of_getElem? (i := 2) rfl))) (mvT hZ (hw _ (List.mem_of_getElem? (i := 3) rfl))) (by decide) (backOf (W := 0) (rm1 l Z aw hw [] (120 : Int32) (0 : Int32) h9 n0 Z9 (by decide)) hZ (hw _ (List.mem_of_getElem? (i := 3) rfl)) (hw _ (List.mem_of_getElem? (i := 2) rfl)) (by decide) (by decide)) (g := (mkF m 25 #[.val (.ref a0)] [(.int (120 : Int32))])) rfl (by rw [hml]; rfl) (argsL := [(.int (120 : Int32))]) (rest := []) (lenOf pd_28I29Z rfl) rfl (by show 2 * 0 + _ ≤ _; exact Nat.le_of_eq rfl) (hb hby d11_25) (fun _ _ => ⟨rfl, e15, (by decide : 0 + 0 ≤ _), (by decide : 0 + 0 ≤ _)⟩)
  dsimp only [Pt.U, Pt.locs, Pt.cells, Pt.slots] at X16 lz16 yz16 zz16 st16 hQ16
  subst lz16 yz16 zz16
  obtain ⟨rfl, N16q, e16⟩ := hQ16
  have N16 := Fr.app N15 N16q
  refine go st16 ?_
  show Run _ _ _ _ _ _ _ T16 (mkF m 28 #[.val (.ref a0)] [(.int (0 : Int32))])
  refine go (T' := T16) (f' := (mkF m 44 #[.val (.ref a0)] [])) (by intro t k; exact XS.ifYes X16.here hx rfl (pc0 := 28) (pc' := 44) rfl (hb hby d11_28) rfl ((if0 _ _).trans (teq (rfl : (0 : Int32) = (0 : Int32))).1) (by decide) (by decide) k) ?_
  refine retV X16 hx Bd.returns (hb hby d11_44) hlk (by decide) (by decide) ?_
  show Q11b Z a0 cs wf s1 b x0 x1 y h0 n0 _ T16.heap _
  rw [e16]
  exact ⟨rfl, N16, KK9, F9_a0_text, F9_a0_position⟩
theorem ef_11u (m : MethodId) (x0 : Addr) : entryFrame m #[(.ref x0)] 1 = mkF m 0 #[.val (.ref x0)] [] := by first | (simp [entryFrame, mkF, argsToLocals, Value.category]; done) | rfl
def Q11u (Z : State) (a0 : Addr) (cs : Int32) (wf : Value) (s1 b : Addr) (x0 x1 x2 x3 y : Int32) (h0 : Heap) (n0 : Nat) (v : Option Value) (h : Heap) (L : List Loc) : Prop := v = none ∧ Fr n0 L ∧ Keep h0 h [a0] ∧ Fld Z h a0 "com/example/settle/settle/io/LineCursor" "text" "Ljava/lang/String;" (.ref s1) ∧ Fld Z h a0 "com/example/settle/settle/io/LineCursor" "position" "I" (.int (0 : Int32))
set_option maxRecDepth 65536 in
set_option maxHeartbeats 40000000 in
theorem rm11u (l : Launch) (Z : State) (aw : Array Value) (hw : ∀ d ∈ tables_1, d.before aw Z = true) (ws : List Jvm.Cond) (a0 : Addr) (cs : Int32) (wf : Value) (s1 b : Addr) (x0 x1 x2 x3 y : Int32) (h0 : Heap) (n0 : Nat) (Z0 : n0 ≤ h0.size) (O0 : Old Z n0 h0) (S_cs : Sta Z Z.heap "java/lang/String" "COMPACT_STRINGS" "Z" (.int cs)) (hcs : ¬ (cs = (0 : Int32))) (S_sf : Sta Z Z.heap "jdk/internal/util/Preconditions" "SIOOBE_FORMATTER" "Ljava/util/function/BiFunction;" wf) (hwf : wf.isRef = true) (S_ad : Sta Z Z.heap "java/lang/StringUTF16" "$assertionsDisabled" "Z" (.int (1 : Int32))) (S_hi : Sta Z Z.heap "java/lang/StringUTF16" "HI_BYTE_SHIFT" "I" (.int (0 : Int32))) (S_lo : Sta Z Z.heap "java/lang/StringUTF16" "LO_BYTE_SHIFT" "I" (.int (8 : Int32))) (E_a0 : Exa Z h0 a0 "com/example/settle/settle/io/LineCursor") (F_t : Fld Z h0 a0 "com/example/settle/settle/io/LineCursor" "text" "Ljava/lang/String;" (.ref s1)) (F_p : Fld Z h0 a0 "com/example/settle/settle/io/LineCursor" "position" "I" (.int (0 : Int32))) (g_a0 : n0 ≤ a0) (E_s : Exa Z h0 s1 "java/lang/String") (F_c : Fld Z h0 s1 "java/lang/String" "coder" "B" (.int (1 : Int32))) (F_v : Fld Z h0 s1 "java/lang/String" "value" "[B" (.ref b)) (A_b : Ary Z h0 b .byte [(.int x0), (.int x1), (.int x2), (.int x3)]) (n_s : a0 ≠ s1) (n_b : a0 ≠ b) (hy : (nar .char ((((x0 &&& (255 : Int32)) <<< ((0 : Int32) &&& 31)) ||| ((x1 &&& (255 : Int32)) <<< ((8 : Int32) &&& 31))).toUInt32.toUInt16.toUInt32.toInt32)) = y) (hbk : own_blank y = (0 : Int32)) :
    MetFree l (⟨"com/example/settle/settle/io/LineCursor", "skipBlanks", "()V"⟩ : MethodName) (head1 (Jvm.Cond.code (⟨"com/example/settle/settle/io/LineCursor", "skipBlanks", "()V"⟩ : MethodName) prog_32_method_18_code 1 none :: ws) ({ frames := 5, cells := 0, slots := 0, locals := 66 } : Room)) (fun a U => a = #[(.ref a0)] ∧ Z.Warmed39 U.vm ∧ U.heap = h0) (fun _ _ _ _ _ => True) (fun _ U o U' => ∃ v L, o = .returned v ∧ Q11u Z a0 cs wf s1 b x0 x1 x2 x3 y h0 n0 v U'.heap L ∧ FrameEnd U o U' L ({ frames := 5, cells := 0, slots := 0, locals := 66 } : Room).cells ({ frames := 5, cells := 0, slots := 0, locals := 66 } : Room).slots) := by
  refine MetFree.of_bodySF (plainFor_of_name pn_1) hisR ?_
  intro p e s m args below meth c s₁ Bd hml0 hP hK
  obtain ⟨rfl, hZ, hh⟩ := hP
  have hx := Bd.exec
  have hby := Bd.bytes
  have hml : c.maxLocals = 1 := hml0
  have hown : s.vm.findClass "com/example/settle/settle/io/LineCursor" = some m.cls := findClass_of_methodNamed Bd.named
  have hnm := (name_of_methodNamed Bd.named Bd.method).1
  have hlk : meth.locks = false := BodyLoose.notSynchronized Bd
  have X0 : Stand p l e ({ frames := 5, cells := 0, slots := 0, locals := 66 } : Room) s m #[(.ref a0)] below meth c s₁ [] 0 0 := Stand.of_body Bd
  have e0 : s₁.heap = h0 := by rw [← hh, Bd.state]; rfl
  have N0 := Fr.nil n0
  show Run p e s below (Q11u Z a0 cs wf s1 b x0 x1 x2 x3 y h0 n0) ({ frames := 5, cells := 0, slots := 0, locals := 66 } : Room).cells ({ frames := 5, cells := 0, slots := 0, locals := 66 } : Room).slots s₁ (entryFrame m #[(.ref a0)] 1)
  rw [ef_11u]
  show Run _ _ _ _ _ _ _ s₁ (mkF m 0 #[.val (.ref a0)] [])
  refine go (T' := s₁) (f' := (mkF m 1 #[.val (.ref a0)] [(.ref a0)])) (by intro t k; exact XS.aloadN X0.here hx rfl (hb hby d11_0) rfl rfl k) ?_
  obtain ⟨T1, X1, e1, st1⟩ := getF X0 hx hZ hown (host := "") (Or.inl (hw _ (List.mem_of_getElem? (i := 59) rfl))) Via.refl e0 F_p (g := (mkF m 1 #[.val (.ref a0)] [(.ref a0)])) rfl rfl (hb hby d11_1)
  refine go st1 ?_
  show Run _ _ _ _ _ _ _ T1 (mkF m 4 #[.val (.ref a0)] [(.int (0 : Int32))])
  refine go (T' := T1) (f' := (mkF m 5 #[.val (.ref a0)] [(.ref a0), (.int (0 : Int32))])) (by intro t k; exact XS.aloadN X1.here hx rfl (hb hby d11_4) rfl rfl k) ?_
  obtain ⟨T2, X2, e2, st2⟩ := getF X1 hx hZ hown (host := "") (Or.inl (hw _ (List.mem_of_getElem? (i := 44) rfl))) Via.refl e1 F_t (g := (mkF m 5 #[.val (.ref a0)] [(.ref a0), (.int (0 : Int32))])) rfl rfl (hb hby d11_5)
  refine go st2 ?_
  show Run _ _ _ _ _ _ _ T2 (mkF m 8 #[.val (.ref a0)] [(.ref s1), (.int (0 : Int32))])
  obtain ⟨cq3, kq3, q3a, q3b, q3c⟩ := isOf hZ e2 E_s
  obtain ⟨_, _, ⟨T3, Lz3, kz3, nz3⟩, -, X3, ⟨Lc3, hQ3, lz3, yz3, zz3⟩, st3⟩ := X2.virtualBack hx (y := (⟨"java/lang/String", "length", "()I"⟩ : MethodName)) (z := (⟨"java/lang/String", "length", "()I"⟩ : MethodName)) hown (mvT hZ (hw _ (List.mem_of_getElem? (i := 61) rfl))) (mvT hZ (hw _ (List.mem_of_getElem? (i := 62) rfl))) (notFace_of_selects (args := #[]) (mvT hZ (hw _ (List.mem_of_getElem? (i := 64) rfl)))) (mvT hZ (hw _ (List.mem_of_getElem? (i := 64) rfl))) (mvT hZ (hw _ (List.mem_of_getElem? (i := 63) rfl))) (by decide) (backOf (W := 1) (rm12u l Z aw hw [] s1 cs b x0 x1 x2 x3 h0 n0 Z0 O0 S_cs hcs E_s F_c F_v A_b) hZ (hw _ (List.mem_of_getElem? (i := 65) rfl)) (hw _ (List.mem_of_getElem? (i := 10) rfl)) (by decide) (by decide)) q3a q3c (g := (mkF m 8 #[.val (.ref a0)] [(.ref s1), (.int (0 : Int32))])) rfl (by rw [hml]; rfl) (Steps.refl _) (argsL := []) (rest := [(.int (0 : Int32))]) (lenOf pd_2829I rfl) rfl (by show 2 * 0 + _ ≤ _; exact Nat.le_of_eq rfl) (hb hby d11_8) (fun _ _ => ⟨rfl, e2, (by decide : 0 + 0 ≤ _), (by decide : 0 + 0 ≤ _)⟩)
  dsimp only [Pt.U, Pt.locs, Pt.cells, Pt.slots] at X3 lz3 yz3 zz3 st3 hQ3
  subst lz3 yz3 zz3
  obtain ⟨rfl, N3q, e3⟩ := hQ3
  have N3 := Fr.app N0 N3q
  refine go (fun _ k => st3.trans k) ?_
  show Run _ _ _ _ _ _ _ T3 (mkF m 11 #[.val (.ref a0)] [(.int (2 : Int32)), (.int (0 : Int32))])
  refine go (T' := T3) (f' := (mkF m 14 #[.val (.ref a0)] [])) (by intro t k; exact XS.icmpNo X3.here hx rfl (hb hby d11_11) rfl (tlt (by decide : (0 : Int32) < (2 : Int32))).2.1 k) ?_
  refine go (T' := T3) (f' := (mkF m 15 #[.val (.ref a0)] [(.ref a0)])) (by intro t k; exact XS.aloadN X3.here hx rfl (hb hby d11_14) rfl rfl k) ?_
  obtain ⟨T4, X4, e4, st4⟩ := getF X3 hx hZ hown (host := "") (Or.inl (hw _ (List.mem_of_getElem? (i := 44) rfl))) Via.refl e3 F_t (g := (mkF m 15 #[.val (.ref a0)] [(.ref a0)])) rfl rfl (hb hby d11_15)
  refine go st4 ?_
  show Run _ _ _ _ _ _ _ T4 (mkF m 18 #[.val (.ref a0)] [(.ref s1)])
  refine go (T' := T4) (f' := (mkF m 19 #[.val (.ref a0)] [(.ref a0), (.ref s1)])) (by intro t k; exact XS.aloadN X4.here hx rfl (hb hby d11_18) rfl rfl k) ?_
  obtain ⟨T5, X5, e5, st5⟩ := getF X4 hx hZ hown (host := "") (Or.inl (hw _ (List.mem_of_getElem? (i := 59) rfl))) Via.refl e4 F_p (g := (mkF m 19 #[.val (.ref a0)] [(.ref a0), (.ref s1)])) rfl rfl (hb hby d11_19)
  refine go st5 ?_
  show Run _ _ _ _ _ _ _ T5 (mkF m 22 #[.val (.ref a0)] [(.int (0 : Int32)), (.ref s1)])
  obtain ⟨cq6, kq6, q6a, q6b, q6c⟩ := isOf hZ e5 E_s
  obtain ⟨_, _, ⟨T6, Lz6, kz6, nz6⟩, -, X6, ⟨Lc6, hQ6, lz6, yz6, zz6⟩, st6⟩ := X5.virtualBack hx (y := (⟨"java/lang/String", "charAt", "(I)C"⟩ : MethodName)) (z := (⟨"java/lang/String", "charAt", "(I)C"⟩ : MethodName)) hown (mvT hZ (hw _ (List.mem_of_getElem? (i := 71) rfl))) (mvT hZ (hw _ (List.mem_of_getElem? (i := 72) rfl))) (notFace_of_selects (args := #[]) (mvT hZ (hw _ (List.mem_of_getElem? (i := 74) rfl)))) (mvT hZ (hw _ (List.mem_of_getElem? (i := 74) rfl))) (mvT hZ (hw _ (List.mem_of_getElem? (i := 73) rfl))) (by decide) (backOf (W := 0) (rm14u l Z aw hw [] s1 cs wf b x0 x1 x2 x3 y h0 n0 Z0 O0 S_cs hcs S_sf hwf S_ad S_hi S_lo E_s F_c F_v A_b hy) hZ (hw _ (List.mem_of_getElem? (i := 75) rfl)) (hw _ (List.mem_of_getElem? (i := 10) rfl)) (by decide) (by decide)) q6a q6c (g := (mkF m 22 #[.val (.ref a0)] [(.int (0 : Int32)), (.ref s1)])) rfl (by rw [hml]; rfl) (Steps.refl _) (argsL := [(.int (0 : Int32))]) (rest := []) (lenOf pd_28I29C rfl) rfl (by show 2 * 0 + _ ≤ _; exact Nat.le_of_eq rfl) (hb hby d11_22) (fun _ _ => ⟨rfl, e5, (by decide : 0 + 0 ≤ _), (by decide : 0 + 0 ≤ _)⟩)
  dsimp only [Pt.U, Pt.locs, Pt.cells, Pt.slots] at X6 lz6 yz6 zz6 st6 hQ6
  subst lz6 yz6 zz6
  obtain ⟨rfl, N6q, e6⟩ := hQ6
  have N6 := Fr.app N3 N6q
  refine go (fun _ k => st6.trans k) ?_
  show Run _ _ _ _ _ _ _ T6 (mkF m 25 #[.val (.ref a0)] [(.int y)])
  obtain ⟨_, _, ⟨T7, Lz7, kz7, nz7⟩, -, X7, ⟨Lc7, hQ7, lz7, yz7, zz7⟩, st7⟩ := Jvm.LawKit.callS X6 hx (y := (⟨"com/example/settle/settle/io/LineCursor", "isBlank", "(I)Z"⟩ : MethodName)) hown (mvT hZ (hw _ (List.mem_of_getElem? (i := 93) rfl))) (mvT hZ (hw _ (List.mem_of_getElem? (i := 1) rfl))) (mvT hZ (hw _ (List.mem_of_getElem? (i := 2) rfl))) (mvT hZ (hw _ (List.mem_of_getElem? (i := 3) rfl))) (by decide) (backOf (W := 0) (rm1 l Z aw hw [] y (0 : Int32) h0 n0 Z0 hbk) hZ (hw _ (List.mem_of_getElem? (i := 3) rfl)) (hw _ (List.mem_of_getElem? (i := 2) rfl)) (by decide) (by decide)) (g := (mkF m 25 #[.val (.ref a0)] [(.int y)])) rfl (by rw [hml]; rfl) (argsL := [(.int y)]) (rest := []) (lenOf pd_28I29Z rfl) rfl (by show 2 * 0 + _ ≤ _; exact Nat.le_of_eq rfl) (hb hby d11_25) (fun _ _ => ⟨rfl, e6, (by decide : 0 + 0 ≤ _), (by decide : 0 + 0 ≤ _)⟩)
  dsimp only [Pt.U, Pt.locs, Pt.cells, Pt.slots] at X7 lz7 yz7 zz7 st7 hQ7
  subst lz7 yz7 zz7
  obtain ⟨rfl, N7q, e7⟩ := hQ7
  have N7 := Fr.app N6 N7q
  refine go st7 ?_
  show Run _ _ _ _ _ _ _ T7 (mkF m 28 #[.val (.ref a0)] [(.int (0 : Int32))])
  refine go (T' := T7) (f' := (mkF m 44 #[.val (.ref a0)] [])) (by intro t k; exact XS.ifYes X7.here hx rfl (pc0 := 28) (pc' := 44) rfl (hb hby d11_28) rfl ((if0 _ _).trans (teq (rfl : (0 : Int32) = (0 : Int32))).1) (by decide) (by decide) k) ?_
  refine retV X7 hx Bd.returns (hb hby d11_44) hlk (by decide) (by decide) ?_
  show Q11u Z a0 cs wf s1 b x0 x1 x2 x3 y h0 n0 _ T7.heap _
  rw [e7]
  exact ⟨rfl, N7, (Keep.refl _ _), F_t, F_p⟩
theorem d19_0 : decode prog_32_method_17_code 0 = .ok (.aload_n 0, 1) := by decide +kernel
theorem d19_1 : decode prog_32_method_17_code 1 = .ok (.getfield 12, 3) := by decide +kernel
theorem d19_4 : decode prog_32_method_17_code 4 = .ok (.iconst 0, 1) := by decide +kernel
theorem d19_5 : decode prog_32_method_17_code 5 = .ok (.aload_n 0, 1) := by decide +kernel
theorem d19_6 : decode prog_32_method_17_code 6 = .ok (.getfield 28, 3) := by decide +kernel
theorem d19_9 : decode prog_32_method_17_code 9 = .ok (.invokevirtual 123, 3) := by decide +kernel
theorem d19_12 : decode prog_32_method_17_code 12 = .ok (.iconst 1, 1) := by decide +kernel
theorem d19_13 : decode prog_32_method_17_code 13 = .ok (.iadd, 1) := by decide +kernel
theorem d19_14 : decode prog_32_method_17_code 14 = .ok (.ireturn, 1) := by decide +kernel
theorem pd_28II29I : parseMethodDescriptor "(II)I" = some ⟨[.int, .int], some .int⟩ := by decide +kernel
theorem ef_19x (m : MethodId) (x0 : Addr) : entryFrame m #[(.ref x0)] 1 = mkF m 0 #[.val (.ref x0)] [] := by first | (simp [entryFrame, mkF, argsToLocals, Value.category]; done) | rfl
def Q19x (Z : State) (a0 : Addr) (cs : Int32) (wf : Value) (s1 b : Addr) (x0 x1 y : Int32) (h0 : Heap) (n0 : Nat) (v : Option Value) (h : Heap) (L : List Loc) : Prop := v = some (.int (1 : Int32)) ∧ Fr n0 L ∧ h = h0
set_option maxRecDepth 65536 in
set_option maxHeartbeats 40000000 in
theorem rm19x (l : Launch) (Z : State) (aw : Array Value) (hw : ∀ d ∈ tables_1, d.before aw Z = true) (ws : List Jvm.Cond) (a0 : Addr) (cs : Int32) (wf : Value) (s1 b : Addr) (x0 x1 y : Int32) (h0 : Heap) (n0 : Nat) (Z0 : n0 ≤ h0.size) (O0 : Old Z n0 h0) (S_cs : Sta Z Z.heap "java/lang/String" "COMPACT_STRINGS" "Z" (.int cs)) (hcs : ¬ (cs = (0 : Int32))) (S_sf : Sta Z Z.heap "jdk/internal/util/Preconditions" "SIOOBE_FORMATTER" "Ljava/util/function/BiFunction;" wf) (hwf : wf.isRef = true) (S_ad : Sta Z Z.heap "java/lang/StringUTF16" "$assertionsDisabled" "Z" (.int (1 : Int32))) (S_hi : Sta Z Z.heap "java/lang/StringUTF16" "HI_BYTE_SHIFT" "I" (.int (0 : Int32))) (S_lo : Sta Z Z.heap "java/lang/StringUTF16" "LO_BYTE_SHIFT" "I" (.int (8 : Int32))) (E_a0 : Exa Z h0 a0 "com/example/settle/settle/io/LineCursor") (F_t : Fld Z h0 a0 "com/example/settle/settle/io/LineCursor" "text" "Ljava/lang/String;" (.ref s1)) (F_p : Fld Z h0 a0 "com/example/settle/settle/io/LineCursor" "position" "I" (.int (0 : Int32))) (g_a0 : n0 ≤ a0) (E_s : Exa Z h0 s1 "java/lang/String") (F_c : Fld Z h0 s1 "java/lang/String" "coder" "B" (.int (0 : Int32))) (F_v : Fld Z h0 s1 "java/lang/String" "value" "[B" (.ref b)) (A_b : Ary Z h0 b .byte [(.int x0), (.int x1)]) (n_s : a0 ≠ s1) (n_b : a0 ≠ b) (hy : (nar .char (((x0 &&& (255 : Int32))).toUInt32.toUInt16.toUInt32.toInt32)) = y) (hbk : own_blank y = (0 : Int32)) :
    MetFree l (⟨"com/example/settle/settle/io/LineCursor", "currentColumn", "()I"⟩ : MethodName) (head1 (Jvm.Cond.code (⟨"com/example/settle/settle/io/LineCursor", "currentColumn", "()I"⟩ : MethodName) prog_32_method_17_code 1 (some .int) :: ws) ({ frames := 3, cells := 0, slots := 0, locals := 43 } : Room)) (fun a U => a = #[(.ref a0)] ∧ Z.Warmed39 U.vm ∧ U.heap = h0) (fun _ _ _ _ _ => True) (fun _ U o U' => ∃ v L, o = .returned v ∧ Q19x Z a0 cs wf s1 b x0 x1 y h0 n0 v U'.heap L ∧ FrameEnd U o U' L ({ frames := 3, cells := 0, slots := 0, locals := 43 } : Room).cells ({ frames := 3, cells := 0, slots := 0, locals := 43 } : Room).slots) := by
  refine MetFree.of_bodySF (plainFor_of_name pn_1) hisR ?_
  intro p e s m args below meth c s₁ Bd hml0 hP hK
  obtain ⟨rfl, hZ, hh⟩ := hP
  have hx := Bd.exec
  have hby := Bd.bytes
  have hml : c.maxLocals = 1 := hml0
  have hown : s.vm.findClass "com/example/settle/settle/io/LineCursor" = some m.cls := findClass_of_methodNamed Bd.named
  have hnm := (name_of_methodNamed Bd.named Bd.method).1
  have hlk : meth.locks = false := BodyLoose.notSynchronized Bd
  have X0 : Stand p l e ({ frames := 3, cells := 0, slots := 0, locals := 43 } : Room) s m #[(.ref a0)] below meth c s₁ [] 0 0 := Stand.of_body Bd
  have e0 : s₁.heap = h0 := by rw [← hh, Bd.state]; rfl
  have N0 := Fr.nil n0
  show Run p e s below (Q19x Z a0 cs wf s1 b x0 x1 y h0 n0) ({ frames := 3, cells := 0, slots := 0, locals := 43 } : Room).cells ({ frames := 3, cells := 0, slots := 0, locals := 43 } : Room).slots s₁ (entryFrame m #[(.ref a0)] 1)
  rw [ef_19x]
  show Run _ _ _ _ _ _ _ s₁ (mkF m 0 #[.val (.ref a0)] [])
  refine go (T' := s₁) (f' := (mkF m 1 #[.val (.ref a0)] [(.ref a0)])) (by intro t k; exact XS.aloadN X0.here hx rfl (hb hby d19_0) rfl rfl k) ?_
  obtain ⟨T1, X1, e1, st1⟩ := getF X0 hx hZ hown (host := "") (Or.inl (hw _ (List.mem_of_getElem? (i := 44) rfl))) Via.refl e0 F_t (g := (mkF m 1 #[.val (.ref a0)] [(.ref a0)])) rfl rfl (hb hby d19_1)
  refine go st1 ?_
  show Run _ _ _ _ _ _ _ T1 (mkF m 4 #[.val (.ref a0)] [(.ref s1)])
  refine go (T' := T1) (f' := (mkF m 5 #[.val (.ref a0)] [(.int (0 : Int32)), (.ref s1)])) (by intro t k; exact XS.iconst X1.here hx rfl (hb hby d19_4) k) ?_
  refine go (T' := T1) (f' := (mkF m 6 #[.val (.ref a0)] [(.ref a0), (.int (0 : Int32)), (.ref s1)])) (by intro t k; exact XS.aloadN X1.here hx rfl (hb hby d19_5) rfl rfl k) ?_
  obtain ⟨T2, X2, e2, st2⟩ := getF X1 hx hZ hown (host := "") (Or.inl (hw _ (List.mem_of_getElem? (i := 59) rfl))) Via.refl e1 F_p (g := (mkF m 6 #[.val (.ref a0)] [(.ref a0), (.int (0 : Int32)), (.ref s1)])) rfl rfl (hb hby d19_6)
  refine go st2 ?_
  show Run _ _ _ _ _ _ _ T2 (mkF m 9 #[.val (.ref a0)] [(.int (0 : Int32)), (.int (0 : Int32)), (.ref s1)])
  obtain ⟨cq3, kq3, q3a, q3b, q3c⟩ := isOf hZ e2 E_s
  obtain ⟨_, _, ⟨T3, Lz3, kz3, nz3⟩, -, X3, ⟨Lc3, hQ3, lz3, yz3, zz3⟩, st3⟩ := X2.virtualBack hx (y := (⟨"java/lang/String", "codePointCount", "(II)I"⟩ : MethodName)) (z := (⟨"java/lang/String", "codePointCount", "(II)I"⟩ : MethodName)) hown (mvT hZ (hw _ (List.mem_of_getElem? (i := 98) rfl))) (mvT hZ (hw _ (List.mem_of_getElem? (i := 99) rfl))) (notFace_of_selects (args := #[]) (mvT hZ (hw _ (List.mem_of_getElem? (i := 101) rfl)))) (mvT hZ (hw _ (List.mem_of_getElem? (i := 101) rfl))) (mvT hZ (hw _ (List.mem_of_getElem? (i := 100) rfl))) (by decide) (backOf (W := 0) (rm20p0 l Z aw hw [] s1 cs b x0 x1 h0 n0 Z0 O0 S_cs hcs E_s F_c F_v A_b) hZ (hw _ (List.mem_of_getElem? (i := 102) rfl)) (hw _ (List.mem_of_getElem? (i := 10) rfl)) (by decide) (by decide)) q3a q3c (g := (mkF m 9 #[.val (.ref a0)] [(.int (0 : Int32)), (.int (0 : Int32)), (.ref s1)])) rfl (by rw [hml]; rfl) (Steps.refl _) (argsL := [(.int (0 : Int32)), (.int (0 : Int32))]) (rest := []) (lenOf pd_28II29I rfl) rfl (by show 2 * 0 + _ ≤ _; exact Nat.le_of_eq rfl) (hb hby d19_9) (fun _ _ => ⟨rfl, e2, (by decide : 0 + 0 ≤ _), (by decide : 0 + 0 ≤ _)⟩)
  dsimp only [Pt.U, Pt.locs, Pt.cells, Pt.slots] at X3 lz3 yz3 zz3 st3 hQ3
  subst lz3 yz3 zz3
  obtain ⟨rfl, N3q, e3⟩ := hQ3
  have N3 := Fr.app N0 N3q
  refine go (fun _ k => st3.trans k) ?_
  show Run _ _ _ _ _ _ _ T3 (mkF m 12 #[.val (.ref a0)] [(.int (0 : Int32))])
  refine go (T' := T3) (f' := (mkF m 13 #[.val (.ref a0)] [(.int (1 : Int32)), (.int (0 : Int32))])) (by intro t k; exact XS.iconst X3.here hx rfl (hb hby d19_12) k) ?_
  refine go (T' := T3) (f' := (mkF m 14 #[.val (.ref a0)] [(.int (1 : Int32))])) (by intro t k; exact XS.iadd X3.here hx rfl (hb hby d19_13) rfl k) ?_
  refine retW X3 hx (t := .int) Bd.returns rfl (Or.inl ⟨rfl, Or.inl rfl, _, rfl⟩) (hb hby d19_14) hlk (by decide) (by decide) ?_
  show Q19x Z a0 cs wf s1 b x0 x1 y h0 n0 _ T3.heap _
  rw [e3]
  have hv : (some (.int (1 : Int32)) : Option Value) = some (.int (1 : Int32)) := rfl
  exact ⟨hv, N3, rfl⟩
theorem ef_19b (m : MethodId) (x0 : Addr) : entryFrame m #[(.ref x0)] 1 = mkF m 0 #[.val (.ref x0)] [] := by first | (simp [entryFrame, mkF, argsToLocals, Value.category]; done) | rfl
def Q19b (Z : State) (a0 : Addr) (cs : Int32) (wf : Value) (s1 b : Addr) (x0 x1 y : Int32) (h0 : Heap) (n0 : Nat) (v : Option Value) (h : Heap) (L : List Loc) : Prop := v = some (.int (2 : Int32)) ∧ Fr n0 L ∧ h = h0
set_option maxRecDepth 65536 in
set_option maxHeartbeats 40000000 in
theorem rm19b (l : Launch) (Z : State) (aw : Array Value) (hw : ∀ d ∈ tables_1, d.before aw Z = true) (ws : List Jvm.Cond) (a0 : Addr) (cs : Int32) (wf : Value) (s1 b : Addr) (x0 x1 y : Int32) (h0 : Heap) (n0 : Nat) (Z0 : n0 ≤ h0.size) (O0 : Old Z n0 h0) (S_cs : Sta Z Z.heap "java/lang/String" "COMPACT_STRINGS" "Z" (.int cs)) (hcs : ¬ (cs = (0 : Int32))) (S_sf : Sta Z Z.heap "jdk/internal/util/Preconditions" "SIOOBE_FORMATTER" "Ljava/util/function/BiFunction;" wf) (hwf : wf.isRef = true) (S_ad : Sta Z Z.heap "java/lang/StringUTF16" "$assertionsDisabled" "Z" (.int (1 : Int32))) (S_hi : Sta Z Z.heap "java/lang/StringUTF16" "HI_BYTE_SHIFT" "I" (.int (0 : Int32))) (S_lo : Sta Z Z.heap "java/lang/StringUTF16" "LO_BYTE_SHIFT" "I" (.int (8 : Int32))) (E_a0 : Exa Z h0 a0 "com/example/settle/settle/io/LineCursor") (F_t : Fld Z h0 a0 "com/example/settle/settle/io/LineCursor" "text" "Ljava/lang/String;" (.ref s1)) (F_p : Fld Z h0 a0 "com/example/settle/settle/io/LineCursor" "position" "I" (.int (1 : Int32))) (g_a0 : n0 ≤ a0) (E_s : Exa Z h0 s1 "java/lang/String") (F_c : Fld Z h0 s1 "java/lang/String" "coder" "B" (.int (0 : Int32))) (F_v : Fld Z h0 s1 "java/lang/String" "value" "[B" (.ref b)) (A_b : Ary Z h0 b .byte [(.int x0), (.int x1)]) (n_s : a0 ≠ s1) (n_b : a0 ≠ b) (hy : (nar .char (((x0 &&& (255 : Int32))).toUInt32.toUInt16.toUInt32.toInt32)) = y) (hbk : own_blank y = (1 : Int32)) (hx1 : (nar .char (((x1 &&& (255 : Int32))).toUInt32.toUInt16.toUInt32.toInt32)) = (120 : Int32)) :
    MetFree l (⟨"com/example/settle/settle/io/LineCursor", "currentColumn", "()I"⟩ : MethodName) (head1 (Jvm.Cond.code (⟨"com/example/settle/settle/io/LineCursor", "currentColumn", "()I"⟩ : MethodName) prog_32_method_17_code 1 (some .int) :: ws) ({ frames := 3, cells := 0, slots := 0, locals := 43 } : Room)) (fun a U => a = #[(.ref a0)] ∧ Z.Warmed39 U.vm ∧ U.heap = h0) (fun _ _ _ _ _ => True) (fun _ U o U' => ∃ v L, o = .returned v ∧ Q19b Z a0 cs wf s1 b x0 x1 y h0 n0 v U'.heap L ∧ FrameEnd U o U' L ({ frames := 3, cells := 0, slots := 0, locals := 43 } : Room).cells ({ frames := 3, cells := 0, slots := 0, locals := 43 } : Room).slots) := by
  refine MetFree.of_bodySF (plainFor_of_name pn_1) hisR ?_
  intro p e s m args below meth c s₁ Bd hml0 hP hK
  obtain ⟨rfl, hZ, hh⟩ := hP
  have hx := Bd.exec
  have hby := Bd.bytes
  have hml : c.maxLocals = 1 := hml0
  have hown : s.vm.findClass "com/example/settle/settle/io/LineCursor" = some m.cls := findClass_of_methodNamed Bd.named
  have hnm := (name_of_methodNamed Bd.named Bd.method).1
  have hlk : meth.locks = false := BodyLoose.notSynchronized Bd
  have X0 : Stand p l e ({ frames := 3, cells := 0, slots := 0, locals := 43 } : Room) s m #[(.ref a0)] below meth c s₁ [] 0 0 := Stand.of_body Bd
  have e0 : s₁.heap = h0 := by rw [← hh, Bd.state]; rfl
  have N0 := Fr.nil n0
  show Run p e s below (Q19b Z a0 cs wf s1 b x0 x1 y h0 n0) ({ frames := 3, cells := 0, slots := 0, locals := 43 } : Room).cells ({ frames := 3, cells := 0, slots := 0, locals := 43 } : Room).slots s₁ (entryFrame m #[(.ref a0)] 1)
  rw [ef_19b]
  show Run _ _ _ _ _ _ _ s₁ (mkF m 0 #[.val (.ref a0)] [])
  refine go (T' := s₁) (f' := (mkF m 1 #[.val (.ref a0)] [(.ref a0)])) (by intro t k; exact XS.aloadN X0.here hx rfl (hb hby d19_0) rfl rfl k) ?_
  obtain ⟨T1, X1, e1, st1⟩ := getF X0 hx hZ hown (host := "") (Or.inl (hw _ (List.mem_of_getElem? (i := 44) rfl))) Via.refl e0 F_t (g := (mkF m 1 #[.val (.ref a0)] [(.ref a0)])) rfl rfl (hb hby d19_1)
  refine go st1 ?_
  show Run _ _ _ _ _ _ _ T1 (mkF m 4 #[.val (.ref a0)] [(.ref s1)])
  refine go (T' := T1) (f' := (mkF m 5 #[.val (.ref a0)] [(.int (0 : Int32)), (.ref s1)])) (by intro t k; exact XS.iconst X1.here hx rfl (hb hby d19_4) k) ?_
  refine go (T' := T1) (f' := (mkF m 6 #[.val (.ref a0)] [(.ref a0), (.int (0 : Int32)), (.ref s1)])) (by intro t k; exact XS.aloadN X1.here hx rfl (hb hby d19_5) rfl rfl k) ?_
  obtain ⟨T2, X2, e2, st2⟩ := getF X1 hx hZ hown (host := "") (Or.inl (hw _ (List.mem_of_getElem? (i := 59) rfl))) Via.refl e1 F_p (g := (mkF m 6 #[.val (.ref a0)] [(.ref a0), (.int (0 : Int32)), (.ref s1)])) rfl rfl (hb hby d19_6)
  refine go st2 ?_
  show Run _ _ _ _ _ _ _ T2 (mkF m 9 #[.val (.ref a0)] [(.int (1 : Int32)), (.int (0 : Int32)), (.ref s1)])
  obtain ⟨cq3, kq3, q3a, q3b, q3c⟩ := isOf hZ e2 E_s
  obtain ⟨_, _, ⟨T3, Lz3, kz3, nz3⟩, -, X3, ⟨Lc3, hQ3, lz3, yz3, zz3⟩, st3⟩ := X2.virtualBack hx (y := (⟨"java/lang/String", "codePointCount", "(II)I"⟩ : MethodName)) (z := (⟨"java/lang/String", "codePointCount", "(II)I"⟩ : MethodName)) hown (mvT hZ (hw _ (List.mem_of_getElem? (i := 98) rfl))) (mvT hZ (hw _ (List.mem_of_getElem? (i := 99) rfl))) (notFace_of_selects (args := #[]) (mvT hZ (hw _ (List.mem_of_getElem? (i := 101) rfl)))) (mvT hZ (hw _ (List.mem_of_getElem? (i := 101) rfl))) (mvT hZ (hw _ (List.mem_of_getElem? (i := 100) rfl))) (by decide) (backOf (W := 0) (rm20p1 l Z aw hw [] s1 cs b x0 x1 h0 n0 Z0 O0 S_cs hcs E_s F_c F_v A_b) hZ (hw _ (List.mem_of_getElem? (i := 102) rfl)) (hw _ (List.mem_of_getElem? (i := 10) rfl)) (by decide) (by decide)) q3a q3c (g := (mkF m 9 #[.val (.ref a0)] [(.int (1 : Int32)), (.int (0 : Int32)), (.ref s1)])) rfl (by rw [hml]; rfl) (Steps.refl _) (argsL := [(.int (0 : Int32)), (.int (1 : Int32))]) (rest := []) (lenOf pd_28II29I rfl) rfl (by show 2 * 0 + _ ≤ _; exact Nat.le_of_eq rfl) (hb hby d19_9) (fun _ _ => ⟨rfl, e2, (by decide : 0 + 0 ≤ _), (by decide : 0 + 0 ≤ _)⟩)
  dsimp only [Pt.U, Pt.locs, Pt.cells, Pt.slots] at X3 lz3 yz3 zz3 st3 hQ3
  subst lz3 yz3 zz3
  obtain ⟨rfl, N3q, e3⟩ := hQ3
  have N3 := Fr.app N0 N3q
  refine go (fun _ k => st3.trans k) ?_
  show Run _ _ _ _ _ _ _ T3 (mkF m 12 #[.val (.ref a0)] [(.int (1 : Int32))])
  refine go (T' := T3) (f' := (mkF m 13 #[.val (.ref a0)] [(.int (1 : Int32)), (.int (1 : Int32))])) (by intro t k; exact XS.iconst X3.here hx rfl (hb hby d19_12) k) ?_
  refine go (T' := T3) (f' := (mkF m 14 #[.val (.ref a0)] [(.int (2 : Int32))])) (by intro t k; exact XS.iadd X3.here hx rfl (hb hby d19_13) rfl k) ?_
  refine retW X3 hx (t := .int) Bd.returns rfl (Or.inl ⟨rfl, Or.inl rfl, _, rfl⟩) (hb hby d19_14) hlk (by decide) (by decide) ?_
  show Q19b Z a0 cs wf s1 b x0 x1 y h0 n0 _ T3.heap _
  rw [e3]
  have hv : (some (.int (2 : Int32)) : Option Value) = some (.int (2 : Int32)) := rfl
  exact ⟨hv, N3, rfl⟩
theorem ef_19u (m : MethodId) (x0 : Addr) : entryFrame m #[(.ref x0)] 1 = mkF m 0 #[.val (.ref x0)] [] := by first | (simp [entryFrame, mkF, argsToLocals, Value.category]; done) | rfl
def Q19u (Z : State) (a0 : Addr) (cs : Int32) (wf : Value) (s1 b : Addr) (x0 x1 x2 x3 y : Int32) (h0 : Heap) (n0 : Nat) (v : Option Value) (h : Heap) (L : List Loc) : Prop := v = some (.int (1 : Int32)) ∧ Fr n0 L ∧ h = h0
set_option maxRecDepth 65536 in
set_option maxHeartbeats 40000000 in
theorem rm19u (l : Launch) (Z : State) (aw : Array Value) (hw : ∀ d ∈ tables_1, d.before aw Z = true) (ws : List Jvm.Cond) (a0 : Addr) (cs : Int32) (wf : Value) (s1 b : Addr) (x0 x1 x2 x3 y : Int32) (h0 : Heap) (n0 : Nat) (Z0 : n0 ≤ h0.size) (O0 : Old Z n0 h0) (S_cs : Sta Z Z.heap "java/lang/String" "COMPACT_STRINGS" "Z" (.int cs)) (hcs : ¬ (cs = (0 : Int32))) (S_sf : Sta Z Z.heap "jdk/internal/util/Preconditions" "SIOOBE_FORMATTER" "Ljava/util/function/BiFunction;" wf) (hwf : wf.isRef = true) (S_ad : Sta Z Z.heap "java/lang/StringUTF16" "$assertionsDisabled" "Z" (.int (1 : Int32))) (S_hi : Sta Z Z.heap "java/lang/StringUTF16" "HI_BYTE_SHIFT" "I" (.int (0 : Int32))) (S_lo : Sta Z Z.heap "java/lang/StringUTF16" "LO_BYTE_SHIFT" "I" (.int (8 : Int32))) (E_a0 : Exa Z h0 a0 "com/example/settle/settle/io/LineCursor") (F_t : Fld Z h0 a0 "com/example/settle/settle/io/LineCursor" "text" "Ljava/lang/String;" (.ref s1)) (F_p : Fld Z h0 a0 "com/example/settle/settle/io/LineCursor" "position" "I" (.int (0 : Int32))) (g_a0 : n0 ≤ a0) (E_s : Exa Z h0 s1 "java/lang/String") (F_c : Fld Z h0 s1 "java/lang/String" "coder" "B" (.int (1 : Int32))) (F_v : Fld Z h0 s1 "java/lang/String" "value" "[B" (.ref b)) (A_b : Ary Z h0 b .byte [(.int x0), (.int x1), (.int x2), (.int x3)]) (n_s : a0 ≠ s1) (n_b : a0 ≠ b) (hy : (nar .char ((((x0 &&& (255 : Int32)) <<< ((0 : Int32) &&& 31)) ||| ((x1 &&& (255 : Int32)) <<< ((8 : Int32) &&& 31))).toUInt32.toUInt16.toUInt32.toInt32)) = y) (hbk : own_blank y = (0 : Int32)) :
    MetFree l (⟨"com/example/settle/settle/io/LineCursor", "currentColumn", "()I"⟩ : MethodName) (head1 (Jvm.Cond.code (⟨"com/example/settle/settle/io/LineCursor", "currentColumn", "()I"⟩ : MethodName) prog_32_method_17_code 1 (some .int) :: ws) ({ frames := 3, cells := 0, slots := 0, locals := 45 } : Room)) (fun a U => a = #[(.ref a0)] ∧ Z.Warmed39 U.vm ∧ U.heap = h0) (fun _ _ _ _ _ => True) (fun _ U o U' => ∃ v L, o = .returned v ∧ Q19u Z a0 cs wf s1 b x0 x1 x2 x3 y h0 n0 v U'.heap L ∧ FrameEnd U o U' L ({ frames := 3, cells := 0, slots := 0, locals := 45 } : Room).cells ({ frames := 3, cells := 0, slots := 0, locals := 45 } : Room).slots) := by
  refine MetFree.of_bodySF (plainFor_of_name pn_1) hisR ?_
  intro p e s m args below meth c s₁ Bd hml0 hP hK
  obtain ⟨rfl, hZ, hh⟩ := hP
  have hx := Bd.exec
  have hby := Bd.bytes
  have hml : c.maxLocals = 1 := hml0
  have hown : s.vm.findClass "com/example/settle/settle/io/LineCursor" = some m.cls := findClass_of_methodNamed Bd.named
  have hnm := (name_of_methodNamed Bd.named Bd.method).1
  have hlk : meth.locks = false := BodyLoose.notSynchronized Bd
  have X0 : Stand p l e ({ frames := 3, cells := 0, slots := 0, locals := 45 } : Room) s m #[(.ref a0)] below meth c s₁ [] 0 0 := Stand.of_body Bd
  have e0 : s₁.heap = h0 := by rw [← hh, Bd.state]; rfl
  have N0 := Fr.nil n0
  show Run p e s below (Q19u Z a0 cs wf s1 b x0 x1 x2 x3 y h0 n0) ({ frames := 3, cells := 0, slots := 0, locals := 45 } : Room).cells ({ frames := 3, cells := 0, slots := 0, locals := 45 } : Room).slots s₁ (entryFrame m #[(.ref a0)] 1)
  rw [ef_19u]
  show Run _ _ _ _ _ _ _ s₁ (mkF m 0 #[.val (.ref a0)] [])
  refine go (T' := s₁) (f' := (mkF m 1 #[.val (.ref a0)] [(.ref a0)])) (by intro t k; exact XS.aloadN X0.here hx rfl (hb hby d19_0) rfl rfl k) ?_
  obtain ⟨T1, X1, e1, st1⟩ := getF X0 hx hZ hown (host := "") (Or.inl (hw _ (List.mem_of_getElem? (i := 44) rfl))) Via.refl e0 F_t (g := (mkF m 1 #[.val (.ref a0)] [(.ref a0)])) rfl rfl (hb hby d19_1)
  refine go st1 ?_
  show Run _ _ _ _ _ _ _ T1 (mkF m 4 #[.val (.ref a0)] [(.ref s1)])
  refine go (T' := T1) (f' := (mkF m 5 #[.val (.ref a0)] [(.int (0 : Int32)), (.ref s1)])) (by intro t k; exact XS.iconst X1.here hx rfl (hb hby d19_4) k) ?_
  refine go (T' := T1) (f' := (mkF m 6 #[.val (.ref a0)] [(.ref a0), (.int (0 : Int32)), (.ref s1)])) (by intro t k; exact XS.aloadN X1.here hx rfl (hb hby d19_5) rfl rfl k) ?_
  obtain ⟨T2, X2, e2, st2⟩ := getF X1 hx hZ hown (host := "") (Or.inl (hw _ (List.mem_of_getElem? (i := 59) rfl))) Via.refl e1 F_p (g := (mkF m 6 #[.val (.ref a0)] [(.ref a0), (.int (0 : Int32)), (.ref s1)])) rfl rfl (hb hby d19_6)
  refine go st2 ?_
  show Run _ _ _ _ _ _ _ T2 (mkF m 9 #[.val (.ref a0)] [(.int (0 : Int32)), (.int (0 : Int32)), (.ref s1)])
  obtain ⟨cq3, kq3, q3a, q3b, q3c⟩ := isOf hZ e2 E_s
  obtain ⟨_, _, ⟨T3, Lz3, kz3, nz3⟩, -, X3, ⟨Lc3, hQ3, lz3, yz3, zz3⟩, st3⟩ := X2.virtualBack hx (y := (⟨"java/lang/String", "codePointCount", "(II)I"⟩ : MethodName)) (z := (⟨"java/lang/String", "codePointCount", "(II)I"⟩ : MethodName)) hown (mvT hZ (hw _ (List.mem_of_getElem? (i := 98) rfl))) (mvT hZ (hw _ (List.mem_of_getElem? (i := 99) rfl))) (notFace_of_selects (args := #[]) (mvT hZ (hw _ (List.mem_of_getElem? (i := 101) rfl)))) (mvT hZ (hw _ (List.mem_of_getElem? (i := 101) rfl))) (mvT hZ (hw _ (List.mem_of_getElem? (i := 100) rfl))) (by decide) (backOf (W := 0) (rm20u l Z aw hw [] s1 cs b x0 x1 x2 x3 h0 n0 Z0 O0 S_cs hcs S_ad E_s F_c F_v A_b) hZ (hw _ (List.mem_of_getElem? (i := 102) rfl)) (hw _ (List.mem_of_getElem? (i := 10) rfl)) (by decide) (by decide)) q3a q3c (g := (mkF m 9 #[.val (.ref a0)] [(.int (0 : Int32)), (.int (0 : Int32)), (.ref s1)])) rfl (by rw [hml]; rfl) (Steps.refl _) (argsL := [(.int (0 : Int32)), (.int (0 : Int32))]) (rest := []) (lenOf pd_28II29I rfl) rfl (by show 2 * 0 + _ ≤ _; exact Nat.le_of_eq rfl) (hb hby d19_9) (fun _ _ => ⟨rfl, e2, (by decide : 0 + 0 ≤ _), (by decide : 0 + 0 ≤ _)⟩)
  dsimp only [Pt.U, Pt.locs, Pt.cells, Pt.slots] at X3 lz3 yz3 zz3 st3 hQ3
  subst lz3 yz3 zz3
  obtain ⟨rfl, N3q, e3⟩ := hQ3
  have N3 := Fr.app N0 N3q
  refine go (fun _ k => st3.trans k) ?_
  show Run _ _ _ _ _ _ _ T3 (mkF m 12 #[.val (.ref a0)] [(.int (0 : Int32))])
  refine go (T' := T3) (f' := (mkF m 13 #[.val (.ref a0)] [(.int (1 : Int32)), (.int (0 : Int32))])) (by intro t k; exact XS.iconst X3.here hx rfl (hb hby d19_12) k) ?_
  refine go (T' := T3) (f' := (mkF m 14 #[.val (.ref a0)] [(.int (1 : Int32))])) (by intro t k; exact XS.iadd X3.here hx rfl (hb hby d19_13) rfl k) ?_
  refine retW X3 hx (t := .int) Bd.returns rfl (Or.inl ⟨rfl, Or.inl rfl, _, rfl⟩) (hb hby d19_14) hlk (by decide) (by decide) ?_
  show Q19u Z a0 cs wf s1 b x0 x1 x2 x3 y h0 n0 _ T3.heap _
  rw [e3]
  have hv : (some (.int (1 : Int32)) : Option Value) = some (.int (1 : Int32)) := rfl
  exact ⟨hv, N3, rfl⟩
theorem d10_0 : decode prog_32_method_15_code 0 = .ok (.aload_n 0, 1) := by decide +kernel
theorem d10_1 : decode prog_32_method_15_code 1 = .ok (.invokevirtual 37, 3) := by decide +kernel
theorem d10_4 : decode prog_32_method_15_code 4 = .ok (.aload_n 0, 1) := by decide +kernel
theorem d10_5 : decode prog_32_method_15_code 5 = .ok (.invokevirtual 112, 3) := by decide +kernel
theorem d10_8 : decode prog_32_method_15_code 8 = .ok (.ireturn, 1) := by decide +kernel
theorem pd_2829V : parseMethodDescriptor "()V" = some ⟨[], none⟩ := by decide +kernel
theorem ef_10x (m : MethodId) (x0 : Addr) : entryFrame m #[(.ref x0)] 1 = mkF m 0 #[.val (.ref x0)] [] := by first | (simp [entryFrame, mkF, argsToLocals, Value.category]; done) | rfl
def Q10x (Z : State) (a0 : Addr) (cs : Int32) (wf : Value) (s1 b : Addr) (x0 x1 y : Int32) (h0 : Heap) (n0 : Nat) (v : Option Value) (h : Heap) (L : List Loc) : Prop := v = some (.int (1 : Int32)) ∧ Fr n0 L ∧ Keep h0 h [a0]
set_option maxRecDepth 65536 in
set_option maxHeartbeats 40000000 in
theorem rm10x (l : Launch) (Z : State) (aw : Array Value) (hw : ∀ d ∈ tables_1, d.before aw Z = true) (ws : List Jvm.Cond) (a0 : Addr) (cs : Int32) (wf : Value) (s1 b : Addr) (x0 x1 y : Int32) (h0 : Heap) (n0 : Nat) (Z0 : n0 ≤ h0.size) (O0 : Old Z n0 h0) (S_cs : Sta Z Z.heap "java/lang/String" "COMPACT_STRINGS" "Z" (.int cs)) (hcs : ¬ (cs = (0 : Int32))) (S_sf : Sta Z Z.heap "jdk/internal/util/Preconditions" "SIOOBE_FORMATTER" "Ljava/util/function/BiFunction;" wf) (hwf : wf.isRef = true) (S_ad : Sta Z Z.heap "java/lang/StringUTF16" "$assertionsDisabled" "Z" (.int (1 : Int32))) (S_hi : Sta Z Z.heap "java/lang/StringUTF16" "HI_BYTE_SHIFT" "I" (.int (0 : Int32))) (S_lo : Sta Z Z.heap "java/lang/StringUTF16" "LO_BYTE_SHIFT" "I" (.int (8 : Int32))) (E_a0 : Exa Z h0 a0 "com/example/settle/settle/io/LineCursor") (F_t : Fld Z h0 a0 "com/example/settle/settle/io/LineCursor" "text" "Ljava/lang/String;" (.ref s1)) (F_p : Fld Z h0 a0 "com/example/settle/settle/io/LineCursor" "position" "I" (.int (0 : Int32))) (g_a0 : n0 ≤ a0) (E_s : Exa Z h0 s1 "java/lang/String") (F_c : Fld Z h0 s1 "java/lang/String" "coder" "B" (.int (0 : Int32))) (F_v : Fld Z h0 s1 "java/lang/String" "value" "[B" (.ref b)) (A_b : Ary Z h0 b .byte [(.int x0), (.int x1)]) (n_s : a0 ≠ s1) (n_b : a0 ≠ b) (hy : (nar .char (((x0 &&& (255 : Int32))).toUInt32.toUInt16.toUInt32.toInt32)) = y) (hbk : own_blank y = (0 : Int32)) :
    MetFree l (⟨"com/example/settle/settle/io/LineCursor", "column", "()I"⟩ : MethodName) (head1 (Jvm.Cond.code (⟨"com/example/settle/settle/io/LineCursor", "column", "()I"⟩ : MethodName) prog_32_method_15_code 1 (some .int) :: ws) ({ frames := 5, cells := 0, slots := 0, locals := 65 } : Room)) (fun a U => a = #[(.ref a0)] ∧ Z.Warmed39 U.vm ∧ U.heap = h0) (fun _ _ _ _ _ => True) (fun _ U o U' => ∃ v L, o = .returned v ∧ Q10x Z a0 cs wf s1 b x0 x1 y h0 n0 v U'.heap L ∧ FrameEnd U o U' L ({ frames := 5, cells := 0, slots := 0, locals := 65 } : Room).cells ({ frames := 5, cells := 0, slots := 0, locals := 65 } : Room).slots) := by
  refine MetFree.of_bodySF (plainFor_of_name pn_1) hisR ?_
  intro p e s m args below meth c s₁ Bd hml0 hP hK
  obtain ⟨rfl, hZ, hh⟩ := hP
  have hx := Bd.exec
  have hby := Bd.bytes
  have hml : c.maxLocals = 1 := hml0
  have hown : s.vm.findClass "com/example/settle/settle/io/LineCursor" = some m.cls := findClass_of_methodNamed Bd.named
  have hnm := (name_of_methodNamed Bd.named Bd.method).1
  have hlk : meth.locks = false := BodyLoose.notSynchronized Bd
  have X0 : Stand p l e ({ frames := 5, cells := 0, slots := 0, locals := 65 } : Room) s m #[(.ref a0)] below meth c s₁ [] 0 0 := Stand.of_body Bd
  have e0 : s₁.heap = h0 := by rw [← hh, Bd.state]; rfl
  have N0 := Fr.nil n0
  show Run p e s below (Q10x Z a0 cs wf s1 b x0 x1 y h0 n0) ({ frames := 5, cells := 0, slots := 0, locals := 65 } : Room).cells ({ frames := 5, cells := 0, slots := 0, locals := 65 } : Room).slots s₁ (entryFrame m #[(.ref a0)] 1)
  rw [ef_10x]
  show Run _ _ _ _ _ _ _ s₁ (mkF m 0 #[.val (.ref a0)] [])
  refine go (T' := s₁) (f' := (mkF m 1 #[.val (.ref a0)] [(.ref a0)])) (by intro t k; exact XS.aloadN X0.here hx rfl (hb hby d10_0) rfl rfl k) ?_
  obtain ⟨cq1, q1, q1'⟩ := (E_a0).cell
  obtain ⟨_, _, ⟨T1, Lz1, kz1, nz1⟩, -, X1, ⟨Lc1, hQ1, lz1, yz1, zz1⟩, st1⟩ := X0.privateBack hx (y := (⟨"com/example/settle/settle/io/LineCursor", "skipBlanks", "()V"⟩ : MethodName)) hown (mvT hZ (hw _ (List.mem_of_getElem? (i := 55) rfl))) (mvT hZ (hw _ (List.mem_of_getElem? (i := 56) rfl))) (selP (y := (⟨"com/example/settle/settle/io/LineCursor", "skipBlanks", "()V"⟩ : MethodName)) (mvT hZ (hw _ (List.mem_of_getElem? (i := 7) rfl))) (Cond.privateMethod_at (mvP hZ (hw _ (List.mem_of_getElem? (i := 57) rfl)) (args := #[]))) (mvT hZ (hw _ (List.mem_of_getElem? (i := 56) rfl))) (by decide)) (Cond.privateMethod_at (mvP hZ (hw _ (List.mem_of_getElem? (i := 57) rfl)) (args := #[]))) (mvT hZ (hw _ (List.mem_of_getElem? (i := 58) rfl))) (by decide) (backOf (W := 0) (rm11x l Z aw hw [] a0 cs wf s1 b x0 x1 y h0 n0 Z0 O0 S_cs hcs S_sf hwf S_ad S_hi S_lo E_a0 F_t F_p g_a0 E_s F_c F_v A_b n_s n_b hy hbk) hZ (hw _ (List.mem_of_getElem? (i := 58) rfl)) (hw _ (List.mem_of_getElem? (i := 2) rfl)) (by decide) (by decide)) (g := (mkF m 1 #[.val (.ref a0)] [(.ref a0)])) rfl (by rw [hml]; rfl) (Steps.refl _) (a := a0) (by rw [e0]; exact q1) q1' (argsL := []) (rest := []) (lenOf pd_2829V rfl) rfl (by show 2 * 0 + _ ≤ _; exact Nat.le_of_eq rfl) (hb hby d10_1) (fun _ _ => ⟨rfl, e0, (by decide : 0 + 0 ≤ _), (by decide : 0 + 0 ≤ _)⟩)
  dsimp only [Pt.U, Pt.locs, Pt.cells, Pt.slots] at X1 lz1 yz1 zz1 st1 hQ1
  subst lz1 yz1 zz1
  obtain ⟨rfl, N1q, K1, Ft1, Fp1⟩ := hQ1
  have E1_a0 := Exa.keep E_a0 K1
  have E1_s1 := Exa.keep E_s K1
  have F1_s1_coder := Fld.keep F_c K1 (ninS (Ne.symm n_s) nin0)
  have F1_s1_value := Fld.keep F_v K1 (ninS (Ne.symm n_s) nin0)
  have A1_b := Ary.keep A_b K1 (ninS (Ne.symm n_b) nin0)
  have O1 : Old Z n0 T1.heap := O0.keep K1 (allS g_a0 all0)
  have Z1 : n0 ≤ T1.heap.size := Nat.le_trans Z0 K1.1
  have KK1 : Keep h0 T1.heap [a0] := (Keep.refl _ _).trans K1 (allS (Or.inl (List.mem_of_getElem? (i := 0) rfl)) all0)
  have N1 := Fr.app N0 N1q
  refine go (fun _ k => st1.trans k) ?_
  show Run _ _ _ _ _ _ _ T1 (mkF m 4 #[.val (.ref a0)] [])
  refine go (T' := T1) (f' := (mkF m 5 #[.val (.ref a0)] [(.ref a0)])) (by intro t k; exact XS.aloadN X1.here hx rfl (hb hby d10_4) rfl rfl k) ?_
  obtain ⟨cq2, q2, q2'⟩ := (E1_a0).cell
  obtain ⟨_, _, ⟨T2, Lz2, kz2, nz2⟩, -, X2, ⟨Lc2, hQ2, lz2, yz2, zz2⟩, st2⟩ := X1.privateBack hx (y := (⟨"com/example/settle/settle/io/LineCursor", "currentColumn", "()I"⟩ : MethodName)) hown (mvT hZ (hw _ (List.mem_of_getElem? (i := 94) rfl))) (mvT hZ (hw _ (List.mem_of_getElem? (i := 95) rfl))) (selP (y := (⟨"com/example/settle/settle/io/LineCursor", "currentColumn", "()I"⟩ : MethodName)) (mvT hZ (hw _ (List.mem_of_getElem? (i := 7) rfl))) (Cond.privateMethod_at (mvP hZ (hw _ (List.mem_of_getElem? (i := 96) rfl)) (args := #[]))) (mvT hZ (hw _ (List.mem_of_getElem? (i := 95) rfl))) (by decide)) (Cond.privateMethod_at (mvP hZ (hw _ (List.mem_of_getElem? (i := 96) rfl)) (args := #[]))) (mvT hZ (hw _ (List.mem_of_getElem? (i := 97) rfl))) (by decide) (backOf (W := 0) (rm19x l Z aw hw [] a0 cs wf s1 b x0 x1 y T1.heap n0 Z1 O1 S_cs hcs S_sf hwf S_ad S_hi S_lo E1_a0 Ft1 Fp1 g_a0 E1_s1 F1_s1_coder F1_s1_value A1_b n_s n_b hy hbk) hZ (hw _ (List.mem_of_getElem? (i := 97) rfl)) (hw _ (List.mem_of_getElem? (i := 2) rfl)) (by decide) (by decide)) (g := (mkF m 5 #[.val (.ref a0)] [(.ref a0)])) rfl (by rw [hml]; rfl) (Steps.refl _) (a := a0) q2 q2' (argsL := []) (rest := []) (lenOf pd_2829I rfl) rfl (by show 2 * 0 + _ ≤ _; exact Nat.le_of_eq rfl) (hb hby d10_5) (fun _ _ => ⟨rfl, rfl, (by decide : 0 + 0 ≤ _), (by decide : 0 + 0 ≤ _)⟩)
  dsimp only [Pt.U, Pt.locs, Pt.cells, Pt.slots] at X2 lz2 yz2 zz2 st2 hQ2
  subst lz2 yz2 zz2
  obtain ⟨rfl, N2q, e2⟩ := hQ2
  have N2 := Fr.app N1 N2q
  refine go (fun _ k => st2.trans k) ?_
  show Run _ _ _ _ _ _ _ T2 (mkF m 8 #[.val (.ref a0)] [(.int (1 : Int32))])
  refine retW X2 hx (t := .int) Bd.returns rfl (Or.inl ⟨rfl, Or.inl rfl, _, rfl⟩) (hb hby d10_8) hlk (by decide) (by decide) ?_
  show Q10x Z a0 cs wf s1 b x0 x1 y h0 n0 _ T2.heap _
  rw [e2]
  have hv : (some (.int (1 : Int32)) : Option Value) = some (.int (1 : Int32)) := rfl
  exact ⟨hv, N2, KK1⟩
theorem ef_10b (m : MethodId) (x0 : Addr) : entryFrame m #[(.ref x0)] 1 = mkF m 0 #[.val (.ref x0)] [] := by first | (simp [entryFrame, mkF, argsToLocals, Value.category]; done) | rfl
def Q10b (Z : State) (a0 : Addr) (cs : Int32) (wf : Value) (s1 b : Addr) (x0 x1 y : Int32) (h0 : Heap) (n0 : Nat) (v : Option Value) (h : Heap) (L : List Loc) : Prop := v = some (.int (2 : Int32)) ∧ Fr n0 L ∧ Keep h0 h [a0]
set_option maxRecDepth 65536 in
set_option maxHeartbeats 40000000 in
theorem rm10b (l : Launch) (Z : State) (aw : Array Value) (hw : ∀ d ∈ tables_1, d.before aw Z = true) (ws : List Jvm.Cond) (a0 : Addr) (cs : Int32) (wf : Value) (s1 b : Addr) (x0 x1 y : Int32) (h0 : Heap) (n0 : Nat) (Z0 : n0 ≤ h0.size) (O0 : Old Z n0 h0) (S_cs : Sta Z Z.heap "java/lang/String" "COMPACT_STRINGS" "Z" (.int cs)) (hcs : ¬ (cs = (0 : Int32))) (S_sf : Sta Z Z.heap "jdk/internal/util/Preconditions" "SIOOBE_FORMATTER" "Ljava/util/function/BiFunction;" wf) (hwf : wf.isRef = true) (S_ad : Sta Z Z.heap "java/lang/StringUTF16" "$assertionsDisabled" "Z" (.int (1 : Int32))) (S_hi : Sta Z Z.heap "java/lang/StringUTF16" "HI_BYTE_SHIFT" "I" (.int (0 : Int32))) (S_lo : Sta Z Z.heap "java/lang/StringUTF16" "LO_BYTE_SHIFT" "I" (.int (8 : Int32))) (E_a0 : Exa Z h0 a0 "com/example/settle/settle/io/LineCursor") (F_t : Fld Z h0 a0 "com/example/settle/settle/io/LineCursor" "text" "Ljava/lang/String;" (.ref s1)) (F_p : Fld Z h0 a0 "com/example/settle/settle/io/LineCursor" "position" "I" (.int (0 : Int32))) (g_a0 : n0 ≤ a0) (E_s : Exa Z h0 s1 "java/lang/String") (F_c : Fld Z h0 s1 "java/lang/String" "coder" "B" (.int (0 : Int32))) (F_v : Fld Z h0 s1 "java/lang/String" "value" "[B" (.ref b)) (A_b : Ary Z h0 b .byte [(.int x0), (.int x1)]) (n_s : a0 ≠ s1) (n_b : a0 ≠ b) (hy : (nar .char (((x0 &&& (255 : Int32))).toUInt32.toUInt16.toUInt32.toInt32)) = y) (hbk : own_blank y = (1 : Int32)) (hx1 : (nar .char (((x1 &&& (255 : Int32))).toUInt32.toUInt16.toUInt32.toInt32)) = (120 : Int32)) :
    MetFree l (⟨"com/example/settle/settle/io/LineCursor", "column", "()I"⟩ : MethodName) (head1 (Jvm.Cond.code (⟨"com/example/settle/settle/io/LineCursor", "column", "()I"⟩ : MethodName) prog_32_method_15_code 1 (some .int) :: ws) ({ frames := 5, cells := 0, slots := 0, locals := 65 } : Room)) (fun a U => a = #[(.ref a0)] ∧ Z.Warmed39 U.vm ∧ U.heap = h0) (fun _ _ _ _ _ => True) (fun _ U o U' => ∃ v L, o = .returned v ∧ Q10b Z a0 cs wf s1 b x0 x1 y h0 n0 v U'.heap L ∧ FrameEnd U o U' L ({ frames := 5, cells := 0, slots := 0, locals := 65 } : Room).cells ({ frames := 5, cells := 0, slots := 0, locals := 65 } : Room).slots) := by
  refine MetFree.of_bodySF (plainFor_of_name pn_1) hisR ?_
  intro p e s m args below meth c s₁ Bd hml0 hP hK
  obtain ⟨rfl, hZ, hh⟩ := hP
  have hx := Bd.exec
  have hby := Bd.bytes
  have hml : c.maxLocals = 1 := hml0
  have hown : s.vm.findClass "com/example/settle/settle/io/LineCursor" = some m.cls := findClass_of_methodNamed Bd.named
  have hnm := (name_of_methodNamed Bd.named Bd.method).1
  have hlk : meth.locks = false := BodyLoose.notSynchronized Bd
  have X0 : Stand p l e ({ frames := 5, cells := 0, slots := 0, locals := 65 } : Room) s m #[(.ref a0)] below meth c s₁ [] 0 0 := Stand.of_body Bd
  have e0 : s₁.heap = h0 := by rw [← hh, Bd.state]; rfl
  have N0 := Fr.nil n0
  show Run p e s below (Q10b Z a0 cs wf s1 b x0 x1 y h0 n0) ({ frames := 5, cells := 0, slots := 0, locals := 65 } : Room).cells ({ frames := 5, cells := 0, slots := 0, locals := 65 } : Room).slots s₁ (entryFrame m #[(.ref a0)] 1)
  rw [ef_10b]
  show Run _ _ _ _ _ _ _ s₁ (mkF m 0 #[.val (.ref a0)] [])
  refine go (T' := s₁) (f' := (mkF m 1 #[.val (.ref a0)] [(.ref a0)])) (by intro t k; exact XS.aloadN X0.here hx rfl (hb hby d10_0) rfl rfl k) ?_
  obtain ⟨cq1, q1, q1'⟩ := (E_a0).cell
  obtain ⟨_, _, ⟨T1, Lz1, kz1, nz1⟩, -, X1, ⟨Lc1, hQ1, lz1, yz1, zz1⟩, st1⟩ := X0.privateBack hx (y := (⟨"com/example/settle/settle/io/LineCursor", "skipBlanks", "()V"⟩ : MethodName)) hown (mvT hZ (hw _ (List.mem_of_getElem? (i := 55) rfl))) (mvT hZ (hw _ (List.mem_of_getElem? (i := 56) rfl))) (selP (y := (⟨"com/example/settle/settle/io/LineCursor", "skipBlanks", "()V"⟩ : MethodName)) (mvT hZ (hw _ (List.mem_of_getElem? (i := 7) rfl))) (Cond.privateMethod_at (mvP hZ (hw _ (List.mem_of_getElem? (i := 57) rfl)) (args := #[]))) (mvT hZ (hw _ (List.mem_of_getElem? (i := 56) rfl))) (by decide)) (Cond.privateMethod_at (mvP hZ (hw _ (List.mem_of_getElem? (i := 57) rfl)) (args := #[]))) (mvT hZ (hw _ (List.mem_of_getElem? (i := 58) rfl))) (by decide) (backOf (W := 0) (rm11b l Z aw hw [] a0 cs wf s1 b x0 x1 y h0 n0 Z0 O0 S_cs hcs S_sf hwf S_ad S_hi S_lo E_a0 F_t F_p g_a0 E_s F_c F_v A_b n_s n_b hy hbk hx1) hZ (hw _ (List.mem_of_getElem? (i := 58) rfl)) (hw _ (List.mem_of_getElem? (i := 2) rfl)) (by decide) (by decide)) (g := (mkF m 1 #[.val (.ref a0)] [(.ref a0)])) rfl (by rw [hml]; rfl) (Steps.refl _) (a := a0) (by rw [e0]; exact q1) q1' (argsL := []) (rest := []) (lenOf pd_2829V rfl) rfl (by show 2 * 0 + _ ≤ _; exact Nat.le_of_eq rfl) (hb hby d10_1) (fun _ _ => ⟨rfl, e0, (by decide : 0 + 0 ≤ _), (by decide : 0 + 0 ≤ _)⟩)
  dsimp only [Pt.U, Pt.locs, Pt.cells, Pt.slots] at X1 lz1 yz1 zz1 st1 hQ1
  subst lz1 yz1 zz1
  obtain ⟨rfl, N1q, K1, Ft1, Fp1⟩ := hQ1
  have E1_a0 := Exa.keep E_a0 K1
  have E1_s1 := Exa.keep E_s K1
  have F1_s1_coder := Fld.keep F_c K1 (ninS (Ne.symm n_s) nin0)
  have F1_s1_value := Fld.keep F_v K1 (ninS (Ne.symm n_s) nin0)
  have A1_b := Ary.keep A_b K1 (ninS (Ne.symm n_b) nin0)
  have O1 : Old Z n0 T1.heap := O0.keep K1 (allS g_a0 all0)
  have Z1 : n0 ≤ T1.heap.size := Nat.le_trans Z0 K1.1
  have KK1 : Keep h0 T1.heap [a0] := (Keep.refl _ _).trans K1 (allS (Or.inl (List.mem_of_getElem? (i := 0) rfl)) all0)
  have N1 := Fr.app N0 N1q
  refine go (fun _ k => st1.trans k) ?_
  show Run _ _ _ _ _ _ _ T1 (mkF m 4 #[.val (.ref a0)] [])
  refine go (T' := T1) (f' := (mkF m 5 #[.val (.ref a0)] [(.ref a0)])) (by intro t k; exact XS.aloadN X1.here hx rfl (hb hby d10_4) rfl rfl k) ?_
  obtain ⟨cq2, q2, q2'⟩ := (E1_a0).cell
  obtain ⟨_, _, ⟨T2, Lz2, kz2, nz2⟩, -, X2, ⟨Lc2, hQ2, lz2, yz2, zz2⟩, st2⟩ := X1.privateBack hx (y := (⟨"com/example/settle/settle/io/LineCursor", "currentColumn", "()I"⟩ : MethodName)) hown (mvT hZ (hw _ (List.mem_of_getElem? (i := 94) rfl))) (mvT hZ (hw _ (List.mem_of_getElem? (i := 95) rfl))) (selP (y := (⟨"com/example/settle/settle/io/LineCursor", "currentColumn", "()I"⟩ : MethodName)) (mvT hZ (hw _ (List.mem_of_getElem? (i := 7) rfl))) (Cond.privateMethod_at (mvP hZ (hw _ (List.mem_of_getElem? (i := 96) rfl)) (args := #[]))) (mvT hZ (hw _ (List.mem_of_getElem? (i := 95) rfl))) (by decide)) (Cond.privateMethod_at (mvP hZ (hw _ (List.mem_of_getElem? (i := 96) rfl)) (args := #[]))) (mvT hZ (hw _ (List.mem_of_getElem? (i := 97) rfl))) (by decide) (backOf (W := 0) (rm19b l Z aw hw [] a0 cs wf s1 b x0 x1 y T1.heap n0 Z1 O1 S_cs hcs S_sf hwf S_ad S_hi S_lo E1_a0 Ft1 Fp1 g_a0 E1_s1 F1_s1_coder F1_s1_value A1_b n_s n_b hy hbk hx1) hZ (hw _ (List.mem_of_getElem? (i := 97) rfl)) (hw _ (List.mem_of_getElem? (i := 2) rfl)) (by decide) (by decide)) (g := (mkF m 5 #[.val (.ref a0)] [(.ref a0)])) rfl (by rw [hml]; rfl) (Steps.refl _) (a := a0) q2 q2' (argsL := []) (rest := []) (lenOf pd_2829I rfl) rfl (by show 2 * 0 + _ ≤ _; exact Nat.le_of_eq rfl) (hb hby d10_5) (fun _ _ => ⟨rfl, rfl, (by decide : 0 + 0 ≤ _), (by decide : 0 + 0 ≤ _)⟩)
  dsimp only [Pt.U, Pt.locs, Pt.cells, Pt.slots] at X2 lz2 yz2 zz2 st2 hQ2
  subst lz2 yz2 zz2
  obtain ⟨rfl, N2q, e2⟩ := hQ2
  have N2 := Fr.app N1 N2q
  refine go (fun _ k => st2.trans k) ?_
  show Run _ _ _ _ _ _ _ T2 (mkF m 8 #[.val (.ref a0)] [(.int (2 : Int32))])
  refine retW X2 hx (t := .int) Bd.returns rfl (Or.inl ⟨rfl, Or.inl rfl, _, rfl⟩) (hb hby d10_8) hlk (by decide) (by decide) ?_
  show Q10b Z a0 cs wf s1 b x0 x1 y h0 n0 _ T2.heap _
  rw [e2]
  have hv : (some (.int (2 : Int32)) : Option Value) = some (.int (2 : Int32)) := rfl
  exact ⟨hv, N2, KK1⟩
theorem ef_10u (m : MethodId) (x0 : Addr) : entryFrame m #[(.ref x0)] 1 = mkF m 0 #[.val (.ref x0)] [] := by first | (simp [entryFrame, mkF, argsToLocals, Value.category]; done) | rfl
def Q10u (Z : State) (a0 : Addr) (cs : Int32) (wf : Value) (s1 b : Addr) (x0 x1 x2 x3 y : Int32) (h0 : Heap) (n0 : Nat) (v : Option Value) (h : Heap) (L : List Loc) : Prop := v = some (.int (1 : Int32)) ∧ Fr n0 L ∧ Keep h0 h [a0]
set_option maxRecDepth 65536 in
set_option maxHeartbeats 40000000 in
theorem rm10u (l : Launch) (Z : State) (aw : Array Value) (hw : ∀ d ∈ tables_1, d.before aw Z = true) (ws : List Jvm.Cond) (a0 : Addr) (cs : Int32) (wf : Value) (s1 b : Addr) (x0 x1 x2 x3 y : Int32) (h0 : Heap) (n0 : Nat) (Z0 : n0 ≤ h0.size) (O0 : Old Z n0 h0) (S_cs : Sta Z Z.heap "java/lang/String" "COMPACT_STRINGS" "Z" (.int cs)) (hcs : ¬ (cs = (0 : Int32))) (S_sf : Sta Z Z.heap "jdk/internal/util/Preconditions" "SIOOBE_FORMATTER" "Ljava/util/function/BiFunction;" wf) (hwf : wf.isRef = true) (S_ad : Sta Z Z.heap "java/lang/StringUTF16" "$assertionsDisabled" "Z" (.int (1 : Int32))) (S_hi : Sta Z Z.heap "java/lang/StringUTF16" "HI_BYTE_SHIFT" "I" (.int (0 : Int32))) (S_lo : Sta Z Z.heap "java/lang/StringUTF16" "LO_BYTE_SHIFT" "I" (.int (8 : Int32))) (E_a0 : Exa Z h0 a0 "com/example/settle/settle/io/LineCursor") (F_t : Fld Z h0 a0 "com/example/settle/settle/io/LineCursor" "text" "Ljava/lang/String;" (.ref s1)) (F_p : Fld Z h0 a0 "com/example/settle/settle/io/LineCursor" "position" "I" (.int (0 : Int32))) (g_a0 : n0 ≤ a0) (E_s : Exa Z h0 s1 "java/lang/String") (F_c : Fld Z h0 s1 "java/lang/String" "coder" "B" (.int (1 : Int32))) (F_v : Fld Z h0 s1 "java/lang/String" "value" "[B" (.ref b)) (A_b : Ary Z h0 b .byte [(.int x0), (.int x1), (.int x2), (.int x3)]) (n_s : a0 ≠ s1) (n_b : a0 ≠ b) (hy : (nar .char ((((x0 &&& (255 : Int32)) <<< ((0 : Int32) &&& 31)) ||| ((x1 &&& (255 : Int32)) <<< ((8 : Int32) &&& 31))).toUInt32.toUInt16.toUInt32.toInt32)) = y) (hbk : own_blank y = (0 : Int32)) :
    MetFree l (⟨"com/example/settle/settle/io/LineCursor", "column", "()I"⟩ : MethodName) (head1 (Jvm.Cond.code (⟨"com/example/settle/settle/io/LineCursor", "column", "()I"⟩ : MethodName) prog_32_method_15_code 1 (some .int) :: ws) ({ frames := 6, cells := 0, slots := 0, locals := 78 } : Room)) (fun a U => a = #[(.ref a0)] ∧ Z.Warmed39 U.vm ∧ U.heap = h0) (fun _ _ _ _ _ => True) (fun _ U o U' => ∃ v L, o = .returned v ∧ Q10u Z a0 cs wf s1 b x0 x1 x2 x3 y h0 n0 v U'.heap L ∧ FrameEnd U o U' L ({ frames := 6, cells := 0, slots := 0, locals := 78 } : Room).cells ({ frames := 6, cells := 0, slots := 0, locals := 78 } : Room).slots) := by
  refine MetFree.of_bodySF (plainFor_of_name pn_1) hisR ?_
  intro p e s m args below meth c s₁ Bd hml0 hP hK
  obtain ⟨rfl, hZ, hh⟩ := hP
  have hx := Bd.exec
  have hby := Bd.bytes
  have hml : c.maxLocals = 1 := hml0
  have hown : s.vm.findClass "com/example/settle/settle/io/LineCursor" = some m.cls := findClass_of_methodNamed Bd.named
  have hnm := (name_of_methodNamed Bd.named Bd.method).1
  have hlk : meth.locks = false := BodyLoose.notSynchronized Bd
  have X0 : Stand p l e ({ frames := 6, cells := 0, slots := 0, locals := 78 } : Room) s m #[(.ref a0)] below meth c s₁ [] 0 0 := Stand.of_body Bd
  have e0 : s₁.heap = h0 := by rw [← hh, Bd.state]; rfl
  have N0 := Fr.nil n0
  show Run p e s below (Q10u Z a0 cs wf s1 b x0 x1 x2 x3 y h0 n0) ({ frames := 6, cells := 0, slots := 0, locals := 78 } : Room).cells ({ frames := 6, cells := 0, slots := 0, locals := 78 } : Room).slots s₁ (entryFrame m #[(.ref a0)] 1)
  rw [ef_10u]
  show Run _ _ _ _ _ _ _ s₁ (mkF m 0 #[.val (.ref a0)] [])
  refine go (T' := s₁) (f' := (mkF m 1 #[.val (.ref a0)] [(.ref a0)])) (by intro t k; exact XS.aloadN X0.here hx rfl (hb hby d10_0) rfl rfl k) ?_
  obtain ⟨cq1, q1, q1'⟩ := (E_a0).cell
  obtain ⟨_, _, ⟨T1, Lz1, kz1, nz1⟩, -, X1, ⟨Lc1, hQ1, lz1, yz1, zz1⟩, st1⟩ := X0.privateBack hx (y := (⟨"com/example/settle/settle/io/LineCursor", "skipBlanks", "()V"⟩ : MethodName)) hown (mvT hZ (hw _ (List.mem_of_getElem? (i := 55) rfl))) (mvT hZ (hw _ (List.mem_of_getElem? (i := 56) rfl))) (selP (y := (⟨"com/example/settle/settle/io/LineCursor", "skipBlanks", "()V"⟩ : MethodName)) (mvT hZ (hw _ (List.mem_of_getElem? (i := 7) rfl))) (Cond.privateMethod_at (mvP hZ (hw _ (List.mem_of_getElem? (i := 57) rfl)) (args := #[]))) (mvT hZ (hw _ (List.mem_of_getElem? (i := 56) rfl))) (by decide)) (Cond.privateMethod_at (mvP hZ (hw _ (List.mem_of_getElem? (i := 57) rfl)) (args := #[]))) (mvT hZ (hw _ (List.mem_of_getElem? (i := 58) rfl))) (by decide) (backOf (W := 0) (rm11u l Z aw hw [] a0 cs wf s1 b x0 x1 x2 x3 y h0 n0 Z0 O0 S_cs hcs S_sf hwf S_ad S_hi S_lo E_a0 F_t F_p g_a0 E_s F_c F_v A_b n_s n_b hy hbk) hZ (hw _ (List.mem_of_getElem? (i := 58) rfl)) (hw _ (List.mem_of_getElem? (i := 2) rfl)) (by decide) (by decide)) (g := (mkF m 1 #[.val (.ref a0)] [(.ref a0)])) rfl (by rw [hml]; rfl) (Steps.refl _) (a := a0) (by rw [e0]; exact q1) q1' (argsL := []) (rest := []) (lenOf pd_2829V rfl) rfl (by show 2 * 0 + _ ≤ _; exact Nat.le_of_eq rfl) (hb hby d10_1) (fun _ _ => ⟨rfl, e0, (by decide : 0 + 0 ≤ _), (by decide : 0 + 0 ≤ _)⟩)
  dsimp only [Pt.U, Pt.locs, Pt.cells, Pt.slots] at X1 lz1 yz1 zz1 st1 hQ1
  subst lz1 yz1 zz1
  obtain ⟨rfl, N1q, K1, Ft1, Fp1⟩ := hQ1
  have E1_a0 := Exa.keep E_a0 K1
  have E1_s1 := Exa.keep E_s K1
  have F1_s1_coder := Fld.keep F_c K1 (ninS (Ne.symm n_s) nin0)
  have F1_s1_value := Fld.keep F_v K1 (ninS (Ne.symm n_s) nin0)
  have A1_b := Ary.keep A_b K1 (ninS (Ne.symm n_b) nin0)
  have O1 : Old Z n0 T1.heap := O0.keep K1 (allS g_a0 all0)
  have Z1 : n0 ≤ T1.heap.size := Nat.le_trans Z0 K1.1
  have KK1 : Keep h0 T1.heap [a0] := (Keep.refl _ _).trans K1 (allS (Or.inl (List.mem_of_getElem? (i := 0) rfl)) all0)
  have N1 := Fr.app N0 N1q
  refine go (fun _ k => st1.trans k) ?_
  show Run _ _ _ _ _ _ _ T1 (mkF m 4 #[.val (.ref a0)] [])
  refine go (T' := T1) (f' := (mkF m 5 #[.val (.ref a0)] [(.ref a0)])) (by intro t k; exact XS.aloadN X1.here hx rfl (hb hby d10_4) rfl rfl k) ?_
  obtain ⟨cq2, q2, q2'⟩ := (E1_a0).cell
  obtain ⟨_, _, ⟨T2, Lz2, kz2, nz2⟩, -, X2, ⟨Lc2, hQ2, lz2, yz2, zz2⟩, st2⟩ := X1.privateBack hx (y := (⟨"com/example/settle/settle/io/LineCursor", "currentColumn", "()I"⟩ : MethodName)) hown (mvT hZ (hw _ (List.mem_of_getElem? (i := 94) rfl))) (mvT hZ (hw _ (List.mem_of_getElem? (i := 95) rfl))) (selP (y := (⟨"com/example/settle/settle/io/LineCursor", "currentColumn", "()I"⟩ : MethodName)) (mvT hZ (hw _ (List.mem_of_getElem? (i := 7) rfl))) (Cond.privateMethod_at (mvP hZ (hw _ (List.mem_of_getElem? (i := 96) rfl)) (args := #[]))) (mvT hZ (hw _ (List.mem_of_getElem? (i := 95) rfl))) (by decide)) (Cond.privateMethod_at (mvP hZ (hw _ (List.mem_of_getElem? (i := 96) rfl)) (args := #[]))) (mvT hZ (hw _ (List.mem_of_getElem? (i := 97) rfl))) (by decide) (backOf (W := 0) (rm19u l Z aw hw [] a0 cs wf s1 b x0 x1 x2 x3 y T1.heap n0 Z1 O1 S_cs hcs S_sf hwf S_ad S_hi S_lo E1_a0 Ft1 Fp1 g_a0 E1_s1 F1_s1_coder F1_s1_value A1_b n_s n_b hy hbk) hZ (hw _ (List.mem_of_getElem? (i := 97) rfl)) (hw _ (List.mem_of_getElem? (i := 2) rfl)) (by decide) (by decide)) (g := (mkF m 5 #[.val (.ref a0)] [(.ref a0)])) rfl (by rw [hml]; rfl) (Steps.refl _) (a := a0) q2 q2' (argsL := []) (rest := []) (lenOf pd_2829I rfl) rfl (by show 2 * 0 + _ ≤ _; exact Nat.le_of_eq rfl) (hb hby d10_5) (fun _ _ => ⟨rfl, rfl, (by decide : 0 + 0 ≤ _), (by decide : 0 + 0 ≤ _)⟩)
  dsimp only [Pt.U, Pt.locs, Pt.cells, Pt.slots] at X2 lz2 yz2 zz2 st2 hQ2
  subst lz2 yz2 zz2
  obtain ⟨rfl, N2q, e2⟩ := hQ2
  have N2 := Fr.app N1 N2q
  refine go (fun _ k => st2.trans k) ?_
  show Run _ _ _ _ _ _ _ T2 (mkF m 8 #[.val (.ref a0)] [(.int (1 : Int32))])
  refine retW X2 hx (t := .int) Bd.returns rfl (Or.inl ⟨rfl, Or.inl rfl, _, rfl⟩) (hb hby d10_8) hlk (by decide) (by decide) ?_
  show Q10u Z a0 cs wf s1 b x0 x1 x2 x3 y h0 n0 _ T2.heap _
  rw [e2]
  have hv : (some (.int (1 : Int32)) : Option Value) = some (.int (1 : Int32)) := rfl
  exact ⟨hv, N2, KK1⟩
theorem pd_285bC29V : parseMethodDescriptor "([C)V" = some ⟨[(.array .char)], none⟩ := by decide +kernel
theorem pd_28Ljava2flang2fString3bI29V : parseMethodDescriptor "(Ljava/lang/String;I)V" = some ⟨[(.object "java/lang/String"), .int], none⟩ := by decide +kernel
theorem pn_0 : plainName "com/example/settle/settle/io/LineCursorIsBlankPinLaw" = true := by first | (simp [plainName, overriddenIn]; done) | decide +kernel
theorem ef_0 (m : MethodId) (x0 : Int32) : entryFrame m #[(.int x0)] maxLocals = mkF m 0 #[.val (.int x0), .unset, .unset, .unset, .unset, .unset, .unset] [] := by first | (simp [entryFrame, mkF, argsToLocals, Value.category, maxLocals]; done) | rfl
def Q0 (Z : State) (p0 : Int32) (cs : Int32) (wf : Value) (h0 : Heap) (n0 : Nat) (v : Option Value) (h : Heap) (L : List Loc) : Prop := v = some (.int (1 : Int32)) ∧ Fr n0 L
set_option maxRecDepth 65536 in
set_option maxHeartbeats 40000000 in
theorem rm0 (l : Launch) (Z : State) (aw : Array Value) (hw : ∀ d ∈ tables_1, d.before aw Z = true) (ws : List Jvm.Cond) (p0 : Int32) (cs : Int32) (wf : Value) (h0 : Heap) (n0 : Nat) (Z0 : n0 ≤ h0.size) (O0 : Old Z n0 h0) (S_cs : Sta Z Z.heap "java/lang/String" "COMPACT_STRINGS" "Z" (.int cs)) (hcs : ¬ (cs = (0 : Int32))) (S_sf : Sta Z Z.heap "jdk/internal/util/Preconditions" "SIOOBE_FORMATTER" "Ljava/util/function/BiFunction;" wf) (hwf : wf.isRef = true) (S_ad : Sta Z Z.heap "java/lang/StringUTF16" "$assertionsDisabled" "Z" (.int (1 : Int32))) (S_hi : Sta Z Z.heap "java/lang/StringUTF16" "HI_BYTE_SHIFT" "I" (.int (0 : Int32))) (S_lo : Sta Z Z.heap "java/lang/StringUTF16" "LO_BYTE_SHIFT" "I" (.int (8 : Int32))) :
    MetFree l x (head1 (Jvm.Cond.code x code maxLocals ret :: ws) room_1) (fun a U => a = #[(.int p0)] ∧ Z.Warmed39 U.vm ∧ U.heap = h0) (fun _ _ _ _ _ => True) (fun _ U o U' => ∃ v L, o = .returned v ∧ Q0 Z p0 cs wf h0 n0 v U'.heap L ∧ FrameEnd U o U' L room_1.cells room_1.slots) := by
  refine MetFree.of_bodySF (plainFor_of_name pn_0) hisR ?_
  intro p e s m args below meth c s₁ Bd hml0 hP hK
  obtain ⟨rfl, hZ, hh⟩ := hP
  have hx := Bd.exec
  have hby := Bd.bytes
  have hml : c.maxLocals = 7 := hml0
  have hown : s.vm.findClass "com/example/settle/settle/io/LineCursorIsBlankPinLaw" = some m.cls := findClass_of_methodNamed Bd.named
  have hnm := (name_of_methodNamed Bd.named Bd.method).1
  have hlk : meth.locks = false := BodyLoose.notSynchronized Bd
  have X0 : Stand p l e room_1 s m #[(.int p0)] below meth c s₁ [] 0 0 := Stand.of_body Bd
  have e0 : s₁.heap = h0 := by rw [← hh, Bd.state]; rfl
  have N0 := Fr.nil n0
  show Run p e s below (Q0 Z p0 cs wf h0 n0) room_1.cells room_1.slots s₁ (entryFrame m #[(.int p0)] maxLocals)
  rw [ef_0]
  show Run _ _ _ _ _ _ _ s₁ (mkF m 0 #[.val (.int p0), .unset, .unset, .unset, .unset, .unset, .unset] [])
  refine go (T' := s₁) (f' := (mkF m 1 #[.val (.int p0), .unset, .unset, .unset, .unset, .unset, .unset] [(.int p0)])) (by intro t k; exact XS.iloadN X0.here hx rfl (hb hby at_0) rfl k) ?_
  refine go (T' := s₁) (f' := (mkF m 3 #[.val (.int p0), .unset, .unset, .unset, .unset, .unset, .unset] [(.int (9 : Int32)), (.int p0)])) (by intro t k; exact XS.bipush X0.here hx rfl (hb hby at_1) k) ?_
  obtain ⟨z1, hz1⟩ : ∃ z : Int32, z = (if p0 = (9 : Int32) then (1 : Int32) else (if p0 = (13 : Int32) then (1 : Int32) else (if p0 = (32 : Int32) then (1 : Int32) else (0 : Int32)))) := ⟨_, rfl⟩
  have J3 : Run p e s below (Q0 Z p0 cs wf h0 n0) room_1.cells room_1.slots s₁ (mkF m 23 #[.val (.int p0), .unset, .unset, .unset, .unset, .unset, .unset] [(.int z1)]) := by
    show Run _ _ _ _ _ _ _ s₁ (mkF m 23 #[.val (.int p0), .unset, .unset, .unset, .unset, .unset, .unset] [(.int z1)])
    refine go (T' := s₁) (f' := (mkF m 24 #[.val (.int p0), .val (.int z1), .unset, .unset, .unset, .unset, .unset] [])) (by intro t k; exact XS.istoreN X0.here hx rfl (hb hby at_23) rfl (l' := #[.val (.int p0), .val (.int z1), .unset, .unset, .unset, .unset, .unset]) rfl k) ?_
    refine go (T' := s₁) (f' := (mkF m 25 #[.val (.int p0), .val (.int z1), .unset, .unset, .unset, .unset, .unset] [(.int p0)])) (by intro t k; exact XS.iloadN X0.here hx rfl (hb hby at_24) rfl k) ?_
    obtain ⟨_, _, ⟨T2, Lz2, kz2, nz2⟩, -, X2, ⟨Lc2, hQ2, lz2, yz2, zz2⟩, st2⟩ := Jvm.LawKit.callS X0 hx (y := (⟨"com/example/settle/settle/io/LineCursor", "isBlank", "(I)Z"⟩ : MethodName)) hown (mvT hZ (hw _ (List.mem_of_getElem? (i := 0) rfl))) (mvT hZ (hw _ (List.mem_of_getElem? (i := 1) rfl))) (mvT hZ (hw _ (List.mem_of_getElem? (i := 2) rfl))) (mvT hZ (hw _ (List.mem_of_getElem? (i := 3) rfl))) (by decide) (backOf (W := 0) (rm1 l Z aw hw [] p0 (own_blank p0) h0 n0 Z0 rfl) hZ (hw _ (List.mem_of_getElem? (i := 3) rfl)) (hw _ (List.mem_of_getElem? (i := 2) rfl)) (by decide) (by decide)) (g := (mkF m 25 #[.val (.int p0), .val (.int z1), .unset, .unset, .unset, .unset, .unset] [(.int p0)])) rfl (by rw [hml]; rfl) (argsL := [(.int p0)]) (rest := []) (lenOf pd_28I29Z rfl) rfl (by show 2 * 0 + _ ≤ _; exact Nat.le_of_eq rfl) (hb hby at_25) (fun _ _ => ⟨rfl, e0, (by decide : 0 + 0 ≤ _), (by decide : 0 + 0 ≤ _)⟩)
    dsimp only [Pt.U, Pt.locs, Pt.cells, Pt.slots] at X2 lz2 yz2 zz2 st2 hQ2
    subst lz2 yz2 zz2
    obtain ⟨rfl, N2q, e2⟩ := hQ2
    have N2 := Fr.app N0 N2q
    refine go st2 ?_
    show Run _ _ _ _ _ _ _ T2 (mkF m 28 #[.val (.int p0), .val (.int z1), .unset, .unset, .unset, .unset, .unset] [(.int (own_blank p0))])
    refine go (T' := T2) (f' := (mkF m 29 #[.val (.int p0), .val (.int z1), .unset, .unset, .unset, .unset, .unset] [(.int z1), (.int (own_blank p0))])) (by intro t k; exact XS.iloadN X2.here hx rfl (hb hby at_28) rfl k) ?_
    refine go (T' := T2) (f' := (mkF m 34 #[.val (.int p0), .val (.int z1), .unset, .unset, .unset, .unset, .unset] [])) (by intro t k; exact XS.icmpYes X2.here hx rfl (pc0 := 29) (pc' := 34) rfl (hb hby at_29) rfl (teq ((own_bl _).trans hz1.symm : (own_blank p0) = z1)).1 (by decide) (by decide) k) ?_
    refine go (T' := T2) (f' := (mkF m 35 #[.val (.int p0), .val (.int z1), .unset, .unset, .unset, .unset, .unset] [(.int p0)])) (by intro t k; exact XS.iloadN X2.here hx rfl (hb hby at_34) rfl k) ?_
    refine go (T' := T2) (f' := (mkF m 37 #[.val (.int p0), .val (.int z1), .unset, .unset, .unset, .unset, .unset] [(.int (65535 : Int32)), (.int p0)])) (by intro t k; exact X2.ldcInt hx hown (mvT hZ (hw _ (List.mem_of_getElem? (i := 4) rfl))) (g := (mkF m 35 #[.val (.int p0), .val (.int z1), .unset, .unset, .unset, .unset, .unset] [(.int p0)])) rfl (hb hby at_35) _ k) ?_
    refine go (T' := T2) (f' := (mkF m 38 #[.val (.int p0), .val (.int z1), .unset, .unset, .unset, .unset, .unset] [(.int (p0 &&& (65535 : Int32)))])) (by intro t k; exact XS.iand X2.here hx rfl (hb hby at_37) rfl k) ?_
    refine go (T' := T2) (f' := (mkF m 39 #[.val (.int p0), .val (.int z1), .unset, .unset, .unset, .unset, .unset] [(.int (((p0 &&& (65535 : Int32))).toUInt32.toUInt16.toUInt32.toInt32))])) (by intro t k; exact XS.i2c X2.here hx rfl (hb hby at_38) rfl k) ?_
    refine go (T' := T2) (f' := (mkF m 40 #[.val (.int p0), .val (.int z1), .val (.int (((p0 &&& (65535 : Int32))).toUInt32.toUInt16.toUInt32.toInt32)), .unset, .unset, .unset, .unset] [])) (by intro t k; exact XS.istoreN X2.here hx rfl (hb hby at_39) rfl (l' := #[.val (.int p0), .val (.int z1), .val (.int (((p0 &&& (65535 : Int32))).toUInt32.toUInt16.toUInt32.toInt32)), .unset, .unset, .unset, .unset]) rfl k) ?_
    obtain ⟨w2, hw2⟩ : ∃ z : Int32, z = (((p0 &&& (65535 : Int32))).toUInt32.toUInt16.toUInt32.toInt32) := ⟨_, rfl⟩
    rw [← hw2]
    show Run _ _ _ _ _ _ _ T2 (mkF m 40 #[.val (.int p0), .val (.int z1), .val (.int w2), .unset, .unset, .unset, .unset] [])
    refine go (T' := T2) (f' := (mkF m 41 #[.val (.int p0), .val (.int z1), .val (.int w2), .unset, .unset, .unset, .unset] [(.int w2)])) (by intro t k; exact XS.iloadN X2.here hx rfl (hb hby at_40) rfl k) ?_
    refine go (T' := T2) (f' := (mkF m 43 #[.val (.int p0), .val (.int z1), .val (.int w2), .unset, .unset, .unset, .unset] [(.int (9 : Int32)), (.int w2)])) (by intro t k; exact XS.bipush X2.here hx rfl (hb hby at_41) k) ?_
    obtain ⟨z3, hz3⟩ : ∃ z : Int32, z = (if w2 = (9 : Int32) then (1 : Int32) else (if w2 = (13 : Int32) then (1 : Int32) else (if w2 = (32 : Int32) then (1 : Int32) else (0 : Int32)))) := ⟨_, rfl⟩
    have J43 : Run p e s below (Q0 Z p0 cs wf h0 n0) room_1.cells room_1.slots T2 (mkF m 63 #[.val (.int p0), .val (.int z1), .val (.int w2), .unset, .unset, .unset, .unset] [(.int z3)]) := by
      show Run _ _ _ _ _ _ _ T2 (mkF m 63 #[.val (.int p0), .val (.int z1), .val (.int w2), .unset, .unset, .unset, .unset] [(.int z3)])
      refine go (T' := T2) (f' := (mkF m 64 #[.val (.int p0), .val (.int z1), .val (.int w2), .val (.int z3), .unset, .unset, .unset] [])) (by intro t k; exact XS.istoreN X2.here hx rfl (hb hby at_63) rfl (l' := #[.val (.int p0), .val (.int z1), .val (.int w2), .val (.int z3), .unset, .unset, .unset]) rfl k) ?_
      refine go (T' := T2) (f' := (mkF m 65 #[.val (.int p0), .val (.int z1), .val (.int w2), .val (.int z3), .unset, .unset, .unset] [(.int w2)])) (by intro t k; exact XS.iloadN X2.here hx rfl (hb hby at_64) rfl k) ?_
      obtain ⟨_, _, ⟨T4, Lz4, kz4, nz4⟩, -, X4, ⟨Lc4, hQ4, lz4, yz4, zz4⟩, st4⟩ := Jvm.LawKit.callS X2 hx (y := (⟨"com/example/settle/settle/io/LineCursor", "isBlank", "(I)Z"⟩ : MethodName)) hown (mvT hZ (hw _ (List.mem_of_getElem? (i := 0) rfl))) (mvT hZ (hw _ (List.mem_of_getElem? (i := 1) rfl))) (mvT hZ (hw _ (List.mem_of_getElem? (i := 2) rfl))) (mvT hZ (hw _ (List.mem_of_getElem? (i := 3) rfl))) (by decide) (backOf (W := 0) (rm1 l Z aw hw [] w2 (own_blank w2) h0 n0 Z0 rfl) hZ (hw _ (List.mem_of_getElem? (i := 3) rfl)) (hw _ (List.mem_of_getElem? (i := 2) rfl)) (by decide) (by decide)) (g := (mkF m 65 #[.val (.int p0), .val (.int z1), .val (.int w2), .val (.int z3), .unset, .unset, .unset] [(.int w2)])) rfl (by rw [hml]; rfl) (argsL := [(.int w2)]) (rest := []) (lenOf pd_28I29Z rfl) rfl (by show 2 * 0 + _ ≤ _; exact Nat.le_of_eq rfl) (hb hby at_65) (fun _ _ => ⟨rfl, e2, (by decide : 0 + 0 ≤ _), (by decide : 0 + 0 ≤ _)⟩)
      dsimp only [Pt.U, Pt.locs, Pt.cells, Pt.slots] at X4 lz4 yz4 zz4 st4 hQ4
      subst lz4 yz4 zz4
      obtain ⟨rfl, N4q, e4⟩ := hQ4
      have N4 := Fr.app N2 N4q
      refine go st4 ?_
      show Run _ _ _ _ _ _ _ T4 (mkF m 68 #[.val (.int p0), .val (.int z1), .val (.int w2), .val (.int z3), .unset, .unset, .unset] [(.int (own_blank w2))])
      refine go (T' := T4) (f' := (mkF m 69 #[.val (.int p0), .val (.int z1), .val (.int w2), .val (.int z3), .unset, .unset, .unset] [(.int z3), (.int (own_blank w2))])) (by intro t k; exact XS.iloadN X4.here hx rfl (hb hby at_68) rfl k) ?_
      refine go (T' := T4) (f' := (mkF m 74 #[.val (.int p0), .val (.int z1), .val (.int w2), .val (.int z3), .unset, .unset, .unset] [])) (by intro t k; exact XS.icmpYes X4.here hx rfl (pc0 := 69) (pc' := 74) rfl (hb hby at_69) rfl (teq ((own_bl _).trans hz3.symm : (own_blank w2) = z3)).1 (by decide) (by decide) k) ?_
      have hk := own_nar2 w2
      rcases own_three (own_char hw2) hz3 with ⟨ez, hbk, hU⟩ | ⟨ez, hbk, hU⟩ | ⟨ez, hbk, hU⟩
      · subst ez
        show Run _ _ _ _ _ _ _ T4 (mkF m 74 #[.val (.int p0), .val (.int z1), .val (.int w2), .val (.int (0 : Int32)), .unset, .unset, .unset] [])
        refine go (T' := T4) (f' := (mkF m 75 #[.val (.int p0), .val (.int z1), .val (.int w2), .val (.int (0 : Int32)), .unset, .unset, .unset] [(.int (2 : Int32))])) (by intro t k; exact XS.iconst X4.here hx rfl (hb hby at_74) k) ?_
        obtain ⟨T5, h5, kA5, X5, e5, E5, A5, EX5, st5⟩ := newPE X4 hx hZ (hw _ (List.mem_of_getElem? (i := 5) rfl)) e4 (g := (mkF m 75 #[.val (.int p0), .val (.int z1), .val (.int w2), .val (.int (0 : Int32)), .unset, .unset, .unset] [(.int (2 : Int32))])) rfl (hb hby at_75) rfl (by decide) (cap := 2) (by decide) (by decide) (by decide) (by decide) (ad := "[C") (by decide)
        obtain ⟨b5, g5⟩ : ∃ z, z = h0.size := ⟨_, rfl⟩
        rw [← g5] at A5 EX5 st5
        have ge_b5 : n0 ≤ b5 := Nat.le_trans Z0 (Nat.le_of_eq g5.symm)
        have K5 : Keep h0 h5 [] := (Keep.refl _ _).ext E5
        have O5 : Old Z n0 h5 := O0.keep K5 all0
        have Z5 : n0 ≤ h5.size := Nat.le_trans Z0 K5.1
        have V5 : Ary Z h5 b5 .char [(.int (0 : Int32)), (.int (0 : Int32))] := Ary.new A5
        refine go st5 ?_
        show Run _ _ _ _ _ _ _ T5 (mkF m 77 #[.val (.int p0), .val (.int z1), .val (.int w2), .val (.int (0 : Int32)), .unset, .unset, .unset] [(.ref b5)])
        refine go (T' := T5) (f' := (mkF m 78 #[.val (.int p0), .val (.int z1), .val (.int w2), .val (.int (0 : Int32)), .unset, .unset, .unset] [(.ref b5), (.ref b5)])) (by intro t k; exact XS.dup X5.here hx rfl (hb hby at_77) rfl rfl k) ?_
        refine go (T' := T5) (f' := (mkF m 79 #[.val (.int p0), .val (.int z1), .val (.int w2), .val (.int (0 : Int32)), .unset, .unset, .unset] [(.int (0 : Int32)), (.ref b5), (.ref b5)])) (by intro t k; exact XS.iconst X5.here hx rfl (hb hby at_78) k) ?_
        refine go (T' := T5) (f' := (mkF m 80 #[.val (.int p0), .val (.int z1), .val (.int w2), .val (.int (0 : Int32)), .unset, .unset, .unset] [(.int w2), (.int (0 : Int32)), (.ref b5), (.ref b5)])) (by intro t k; exact XS.iloadN X5.here hx rfl (hb hby at_79) rfl k) ?_
        obtain ⟨cl6, Ar6, hin6⟩ := Ary.st (j := (0 : Int32)) V5 (by decide) (by show (0 : Int32).toNatClampNeg < 2; decide)
        obtain ⟨T6, h6, X6, e6, W6, st6⟩ := stC X5 hx hZ e5 Ar6 (j := (0 : Int32)) hin6 (g := (mkF m 80 #[.val (.int p0), .val (.int z1), .val (.int w2), .val (.int (0 : Int32)), .unset, .unset, .unset] [(.int w2), (.int (0 : Int32)), (.ref b5), (.ref b5)])) rfl rfl (hb hby at_80)
        have K6 : Keep h5 h6 [b5] := Keep.of_wr W6
        have V6 : Ary Z h6 b5 .char [(.int (nar .char w2)), (.int (0 : Int32))] := Ary.set V5 W6 (fits_nar_char _)
        have N6 := Fr.snoc X6 N4 ge_b5
        have E6_b5 := Exa.keep EX5 K6
        have O6 : Old Z n0 h6 := O5.keep K6 (allS ge_b5 all0)
        have Z6 : n0 ≤ h6.size := Nat.le_trans Z5 K6.1
        refine go st6 ?_
        show Run _ _ _ _ _ _ _ T6 (mkF m 81 #[.val (.int p0), .val (.int z1), .val (.int w2), .val (.int (0 : Int32)), .unset, .unset, .unset] [(.ref b5)])
        refine go (T' := T6) (f' := (mkF m 82 #[.val (.int p0), .val (.int z1), .val (.int w2), .val (.int (0 : Int32)), .unset, .unset, .unset] [(.ref b5), (.ref b5)])) (by intro t k; exact XS.dup X6.here hx rfl (hb hby at_81) rfl rfl k) ?_
        refine go (T' := T6) (f' := (mkF m 83 #[.val (.int p0), .val (.int z1), .val (.int w2), .val (.int (0 : Int32)), .unset, .unset, .unset] [(.int (1 : Int32)), (.ref b5), (.ref b5)])) (by intro t k; exact XS.iconst X6.here hx rfl (hb hby at_82) k) ?_
        refine go (T' := T6) (f' := (mkF m 85 #[.val (.int p0), .val (.int z1), .val (.int w2), .val (.int (0 : Int32)), .unset, .unset, .unset] [(.int (120 : Int32)), (.int (1 : Int32)), (.ref b5), (.ref b5)])) (by intro t k; exact XS.bipush X6.here hx rfl (hb hby at_83) k) ?_
        obtain ⟨cl7, Ar7, hin7⟩ := Ary.st (j := (1 : Int32)) V6 (by decide) (by show (1 : Int32).toNatClampNeg < 2; decide)
        obtain ⟨T7, h7, X7, e7, W7, st7⟩ := stC X6 hx hZ e6 Ar7 (j := (1 : Int32)) hin7 (g := (mkF m 85 #[.val (.int p0), .val (.int z1), .val (.int w2), .val (.int (0 : Int32)), .unset, .unset, .unset] [(.int (120 : Int32)), (.int (1 : Int32)), (.ref b5), (.ref b5)])) rfl rfl (hb hby at_85)
        have K7 : Keep h6 h7 [b5] := Keep.of_wr W7
        have V7 : Ary Z h7 b5 .char [(.int (nar .char w2)), (.int (120 : Int32))] := Ary.set V6 W7 (fits_nar_char _)
        have N7 := Fr.snoc X7 N6 ge_b5
        have E7_b5 := Exa.keep E6_b5 K7
        have O7 : Old Z n0 h7 := O6.keep K7 (allS ge_b5 all0)
        have Z7 : n0 ≤ h7.size := Nat.le_trans Z6 K7.1
        refine go st7 ?_
        show Run _ _ _ _ _ _ _ T7 (mkF m 86 #[.val (.int p0), .val (.int z1), .val (.int w2), .val (.int (0 : Int32)), .unset, .unset, .unset] [(.ref b5)])
        refine go (T' := T7) (f' := (mkF m 88 #[.val (.int p0), .val (.int z1), .val (.int w2), .val (.int (0 : Int32)), .val (.ref b5), .unset, .unset] [])) (by intro t k; exact XS.astore X7.here hx rfl (hb hby at_86) rfl rfl (l' := #[.val (.int p0), .val (.int z1), .val (.int w2), .val (.int (0 : Int32)), .val (.ref b5), .unset, .unset]) rfl k) ?_
        obtain ⟨T8, h8, X8, e8, E8, A8, D8, -, st8⟩ := newO X7 hx hZ hown (hw _ (List.mem_of_getElem? (i := 6) rfl)) (hw _ (List.mem_of_getElem? (i := 7) rfl)) (hw _ (List.mem_of_getElem? (i := 2) rfl)) e7 (g := (mkF m 88 #[.val (.int p0), .val (.int z1), .val (.int w2), .val (.int (0 : Int32)), .val (.ref b5), .unset, .unset] [])) rfl (hb hby at_88) (by decide) (by decide)
        obtain ⟨b8, g8⟩ : ∃ z, z = h7.size := ⟨_, rfl⟩
        rw [← g8] at A8 D8 st8
        have ne_b5_b8 : b5 ≠ b8 := Nat.ne_of_lt (Nat.lt_of_lt_of_eq E7_b5.lt g8.symm)
        have ge_b8 : n0 ≤ b8 := Nat.le_trans Z7 (Nat.le_of_eq g8.symm)
        have K8 : Keep h7 h8 [] := (Keep.refl _ _).ext E8
        have E8_b5 := Exa.keep E7_b5 K8
        have A8_b5 := Ary.keep V7 K8 nin0
        have O8 : Old Z n0 h8 := O7.keep K8 all0
        have Z8 : n0 ≤ h8.size := Nat.le_trans Z7 K8.1
        have F8_b8_text : Fld Z h8 b8 "com/example/settle/settle/io/LineCursor" "text" "Ljava/lang/String;" .null := D8 (Or.inr (hw _ (List.mem_of_getElem? (i := 45) rfl))) (ty := (.object "java/lang/String")) (by decide)
        have F8_b8_line : Fld Z h8 b8 "com/example/settle/settle/io/LineCursor" "line" "I" (.int (0 : Int32)) := D8 (Or.inr (hw _ (List.mem_of_getElem? (i := 47) rfl))) (ty := .int) (by decide)
        have F8_b8_columns : Fld Z h8 b8 "com/example/settle/settle/io/LineCursor" "columns" "Z" (.int (0 : Int32)) := D8 (Or.inr (hw _ (List.mem_of_getElem? (i := 49) rfl))) (ty := .boolean) (by decide)
        have F8_b8_position : Fld Z h8 b8 "com/example/settle/settle/io/LineCursor" "position" "I" (.int (0 : Int32)) := D8 (Or.inl (hw _ (List.mem_of_getElem? (i := 60) rfl))) (ty := .int) (by decide)
        refine go st8 ?_
        show Run _ _ _ _ _ _ _ T8 (mkF m 91 #[.val (.int p0), .val (.int z1), .val (.int w2), .val (.int (0 : Int32)), .val (.ref b5), .unset, .unset] [(.ref b8)])
        refine go (T' := T8) (f' := (mkF m 92 #[.val (.int p0), .val (.int z1), .val (.int w2), .val (.int (0 : Int32)), .val (.ref b5), .unset, .unset] [(.ref b8), (.ref b8)])) (by intro t k; exact XS.dup X8.here hx rfl (hb hby at_91) rfl rfl k) ?_
        obtain ⟨T9, h9, X9, e9, E9, A9, D9, -, st9⟩ := newO X8 hx hZ hown (hw _ (List.mem_of_getElem? (i := 8) rfl)) (hw _ (List.mem_of_getElem? (i := 9) rfl)) (hw _ (List.mem_of_getElem? (i := 10) rfl)) e8 (g := (mkF m 92 #[.val (.int p0), .val (.int z1), .val (.int w2), .val (.int (0 : Int32)), .val (.ref b5), .unset, .unset] [(.ref b8), (.ref b8)])) rfl (hb hby at_92) (by decide) (by decide)
        obtain ⟨b9, g9⟩ : ∃ z, z = h8.size := ⟨_, rfl⟩
        rw [← g9] at A9 D9 st9
        have ne_b5_b9 : b5 ≠ b9 := Nat.ne_of_lt (Nat.lt_of_lt_of_eq E8_b5.lt g9.symm)
        have ne_b8_b9 : b8 ≠ b9 := Nat.ne_of_lt (Nat.lt_of_lt_of_eq A8.lt g9.symm)
        have ge_b9 : n0 ≤ b9 := Nat.le_trans Z8 (Nat.le_of_eq g9.symm)
        have K9 : Keep h8 h9 [] := (Keep.refl _ _).ext E9
        have E9_b5 := Exa.keep E8_b5 K9
        have E9_b8 := Exa.keep A8 K9
        have F9_b8_text := Fld.keep F8_b8_text K9 nin0
        have F9_b8_line := Fld.keep F8_b8_line K9 nin0
        have F9_b8_columns := Fld.keep F8_b8_columns K9 nin0
        have F9_b8_position := Fld.keep F8_b8_position K9 nin0
        have A9_b5 := Ary.keep A8_b5 K9 nin0
        have O9 : Old Z n0 h9 := O8.keep K9 all0
        have Z9 : n0 ≤ h9.size := Nat.le_trans Z8 K9.1
        have F9_b9_coder : Fld Z h9 b9 "java/lang/String" "coder" "B" (.int (0 : Int32)) := D9 (Or.inr (hw _ (List.mem_of_getElem? (i := 34) rfl))) (ty := .byte) (by decide)
        have F9_b9_value : Fld Z h9 b9 "java/lang/String" "value" "[B" .null := D9 (Or.inr (hw _ (List.mem_of_getElem? (i := 36) rfl))) (ty := (.array .byte)) (by decide)
        refine go st9 ?_
        show Run _ _ _ _ _ _ _ T9 (mkF m 95 #[.val (.int p0), .val (.int z1), .val (.int w2), .val (.int (0 : Int32)), .val (.ref b5), .unset, .unset] [(.ref b9), (.ref b8), (.ref b8)])
        refine go (T' := T9) (f' := (mkF m 96 #[.val (.int p0), .val (.int z1), .val (.int w2), .val (.int (0 : Int32)), .val (.ref b5), .unset, .unset] [(.ref b9), (.ref b9), (.ref b8), (.ref b8)])) (by intro t k; exact XS.dup X9.here hx rfl (hb hby at_95) rfl rfl k) ?_
        refine go (T' := T9) (f' := (mkF m 98 #[.val (.int p0), .val (.int z1), .val (.int w2), .val (.int (0 : Int32)), .val (.ref b5), .unset, .unset] [(.ref b5), (.ref b9), (.ref b9), (.ref b8), (.ref b8)])) (by intro t k; exact XS.aload X9.here hx rfl (hb hby at_96) rfl rfl k) ?_
        obtain ⟨_, _, ⟨T10, Lz10, kz10, nz10⟩, -, X10, ⟨Lc10, hQ10, lz10, yz10, zz10⟩, st10⟩ := X9.specialBack hx (y := (⟨"java/lang/String", "<init>", "([C)V"⟩ : MethodName)) rfl hown (mvT hZ (hw _ (List.mem_of_getElem? (i := 11) rfl))) (mvT hZ (hw _ (List.mem_of_getElem? (i := 12) rfl))) (mvT hZ (hw _ (List.mem_of_getElem? (i := 13) rfl))) (by decide) (backOf (W := 3) (rm2u l Z aw hw [] b9 b5 cs (nar .char w2) (120 : Int32) h9 n0 Z9 O9 S_cs hcs S_ad S_hi S_lo A9 F9_b9_coder F9_b9_value ge_b9 A9_b5 (Ne.symm ne_b5_b9) hk hU) hZ (hw _ (List.mem_of_getElem? (i := 13) rfl)) (hw _ (List.mem_of_getElem? (i := 10) rfl)) (by decide) (by decide)) (g := (mkF m 98 #[.val (.int p0), .val (.int z1), .val (.int w2), .val (.int (0 : Int32)), .val (.ref b5), .unset, .unset] [(.ref b5), (.ref b9), (.ref b9), (.ref b8), (.ref b8)])) rfl (by rw [hml]; rfl) (Steps.refl _) (a := b9) (argsL := [(.ref b5)]) (rest := [(.ref b9), (.ref b8), (.ref b8)]) (lenOf pd_285bC29V rfl) rfl (by show 2 * 0 + _ ≤ _; exact Nat.le_of_eq rfl) (hb hby at_98) (fun _ _ => ⟨rfl, e9, (by decide : 3 + 2 ≤ _), (by decide : 10 + 6 ≤ _)⟩)
        dsimp only [Pt.U, Pt.locs, Pt.cells, Pt.slots] at X10 lz10 yz10 zz10 st10 hQ10
        subst lz10 yz10 zz10
        obtain ⟨rfl, N10q, K10, sb10, zb10, Fc10, Fv10, Ab10⟩ := hQ10
        have ne_b5_sb10 : b5 ≠ sb10 := Nat.ne_of_lt (Nat.lt_of_lt_of_le E9_b5.lt zb10)
        have ne_b8_sb10 : b8 ≠ sb10 := Nat.ne_of_lt (Nat.lt_of_lt_of_le E9_b8.lt zb10)
        have ne_b9_sb10 : b9 ≠ sb10 := Nat.ne_of_lt (Nat.lt_of_lt_of_le A9.lt zb10)
        have ge_sb10 : n0 ≤ sb10 := Nat.le_trans Z9 zb10
        have E10_b5 := Exa.keep E9_b5 K10
        have E10_b8 := Exa.keep E9_b8 K10
        have E10_b9 := Exa.keep A9 K10
        have F10_b8_text := Fld.keep F9_b8_text K10 (ninS ne_b8_b9 nin0)
        have F10_b8_line := Fld.keep F9_b8_line K10 (ninS ne_b8_b9 nin0)
        have F10_b8_columns := Fld.keep F9_b8_columns K10 (ninS ne_b8_b9 nin0)
        have F10_b8_position := Fld.keep F9_b8_position K10 (ninS ne_b8_b9 nin0)
        have A10_b5 := Ary.keep A9_b5 K10 (ninS ne_b5_b9 nin0)
        have O10 : Old Z n0 T10.heap := O9.keep K10 (allS ge_b9 all0)
        have Z10 : n0 ≤ T10.heap.size := Nat.le_trans Z9 K10.1
        have N10 := Fr.app N7 N10q
        refine go (fun _ k => st10.trans k) ?_
        show Run _ _ _ _ _ _ _ T10 (mkF m 101 #[.val (.int p0), .val (.int z1), .val (.int w2), .val (.int (0 : Int32)), .val (.ref b5), .unset, .unset] [(.ref b9), (.ref b8), (.ref b8)])
        refine go (T' := T10) (f' := (mkF m 102 #[.val (.int p0), .val (.int z1), .val (.int w2), .val (.int (0 : Int32)), .val (.ref b5), .unset, .unset] [(.int (1 : Int32)), (.ref b9), (.ref b8), (.ref b8)])) (by intro t k; exact XS.iconst X10.here hx rfl (hb hby at_101) k) ?_
        obtain ⟨_, _, ⟨T11, Lz11, kz11, nz11⟩, -, X11, ⟨Lc11, hQ11, lz11, yz11, zz11⟩, st11⟩ := X10.specialBack hx (y := (⟨"com/example/settle/settle/io/LineCursor", "<init>", "(Ljava/lang/String;I)V"⟩ : MethodName)) rfl hown (mvT hZ (hw _ (List.mem_of_getElem? (i := 37) rfl))) (mvT hZ (hw _ (List.mem_of_getElem? (i := 38) rfl))) (mvT hZ (hw _ (List.mem_of_getElem? (i := 39) rfl))) (by decide) (backOf (W := 1) (rm8 l Z aw hw [] b8 b9  T10.heap n0 Z10 E10_b8 F10_b8_text F10_b8_line F10_b8_columns F10_b8_position ge_b8 E10_b9 ne_b8_b9) hZ (hw _ (List.mem_of_getElem? (i := 39) rfl)) (hw _ (List.mem_of_getElem? (i := 2) rfl)) (by decide) (by decide)) (g := (mkF m 102 #[.val (.int p0), .val (.int z1), .val (.int w2), .val (.int (0 : Int32)), .val (.ref b5), .unset, .unset] [(.int (1 : Int32)), (.ref b9), (.ref b8), (.ref b8)])) rfl (by rw [hml]; rfl) (Steps.refl _) (a := b8) (argsL := [(.ref b9), (.int (1 : Int32))]) (rest := [(.ref b8)]) (lenOf pd_28Ljava2flang2fString3bI29V rfl) rfl (by show 2 * 0 + _ ≤ _; exact Nat.le_of_eq rfl) (hb hby at_102) (fun _ _ => ⟨rfl, rfl, (by decide : 5 + 0 ≤ _), (by decide : 16 + 0 ≤ _)⟩)
        dsimp only [Pt.U, Pt.locs, Pt.cells, Pt.slots] at X11 lz11 yz11 zz11 st11 hQ11
        subst lz11 yz11 zz11
        obtain ⟨rfl, N11q, K11, Ft11, Fl11, Fz11, Fp11⟩ := hQ11
        have E11_b5 := Exa.keep E10_b5 K11
        have E11_b8 := Exa.keep E10_b8 K11
        have E11_b9 := Exa.keep E10_b9 K11
        have F11_b9_coder := Fld.keep Fc10 K11 (ninS (Ne.symm ne_b8_b9) nin0)
        have F11_b9_value := Fld.keep Fv10 K11 (ninS (Ne.symm ne_b8_b9) nin0)
        have A11_b5 := Ary.keep A10_b5 K11 (ninS ne_b5_b8 nin0)
        have A11_sb10 := Ary.keep Ab10 K11 (ninS (Ne.symm ne_b8_sb10) nin0)
        have O11 : Old Z n0 T11.heap := O10.keep K11 (allS ge_b8 all0)
        have Z11 : n0 ≤ T11.heap.size := Nat.le_trans Z10 K11.1
        have N11 := Fr.app N10 N11q
        refine go (fun _ k => st11.trans k) ?_
        show Run _ _ _ _ _ _ _ T11 (mkF m 105 #[.val (.int p0), .val (.int z1), .val (.int w2), .val (.int (0 : Int32)), .val (.ref b5), .unset, .unset] [(.ref b8)])
        refine go (T' := T11) (f' := (mkF m 107 #[.val (.int p0), .val (.int z1), .val (.int w2), .val (.int (0 : Int32)), .val (.ref b5), .val (.ref b8), .unset] [])) (by intro t k; exact XS.astore X11.here hx rfl (hb hby at_105) rfl rfl (l' := #[.val (.int p0), .val (.int z1), .val (.int w2), .val (.int (0 : Int32)), .val (.ref b5), .val (.ref b8), .unset]) rfl k) ?_
        refine go (T' := T11) (f' := (mkF m 108 #[.val (.int p0), .val (.int z1), .val (.int w2), .val (.int (0 : Int32)), .val (.ref b5), .val (.ref b8), .unset] [(.int (0 : Int32))])) (by intro t k; exact XS.iloadN X11.here hx rfl (hb hby at_107) rfl k) ?_
        refine go (T' := T11) (f' := (mkF m 115 #[.val (.int p0), .val (.int z1), .val (.int w2), .val (.int (0 : Int32)), .val (.ref b5), .val (.ref b8), .unset] [])) (by intro t k; exact XS.ifYes X11.here hx rfl (pc0 := 108) (pc' := 115) rfl (hb hby at_108) rfl ((if0 _ _).trans (teq (rfl : (0 : Int32) = (0 : Int32))).1) (by decide) (by decide) k) ?_
        refine go (T' := T11) (f' := (mkF m 116 #[.val (.int p0), .val (.int z1), .val (.int w2), .val (.int (0 : Int32)), .val (.ref b5), .val (.ref b8), .unset] [(.int (1 : Int32))])) (by intro t k; exact XS.iconst X11.here hx rfl (hb hby at_115) k) ?_
        refine go (T' := T11) (f' := (mkF m 118 #[.val (.int p0), .val (.int z1), .val (.int w2), .val (.int (0 : Int32)), .val (.ref b5), .val (.ref b8), .val (.int (1 : Int32))] [])) (by intro t k; exact XS.istore X11.here hx rfl (hb hby at_116) rfl (l' := #[.val (.int p0), .val (.int z1), .val (.int w2), .val (.int (0 : Int32)), .val (.ref b5), .val (.ref b8), .val (.int (1 : Int32))]) rfl k) ?_
        refine go (T' := T11) (f' := (mkF m 120 #[.val (.int p0), .val (.int z1), .val (.int w2), .val (.int (0 : Int32)), .val (.ref b5), .val (.ref b8), .val (.int (1 : Int32))] [(.ref b8)])) (by intro t k; exact XS.aload X11.here hx rfl (hb hby at_118) rfl rfl k) ?_
        obtain ⟨cq12, kq12, q12a, q12b, q12c⟩ := isOf hZ rfl E11_b8
        obtain ⟨_, _, ⟨T12, Lz12, kz12, nz12⟩, -, X12, ⟨Lc12, hQ12, lz12, yz12, zz12⟩, st12⟩ := X11.virtualBack hx (y := (⟨"com/example/settle/settle/io/LineCursor", "column", "()I"⟩ : MethodName)) (z := (⟨"com/example/settle/settle/io/LineCursor", "column", "()I"⟩ : MethodName)) hown (mvT hZ (hw _ (List.mem_of_getElem? (i := 50) rfl))) (mvT hZ (hw _ (List.mem_of_getElem? (i := 51) rfl))) (notFace_of_selects (args := #[]) (mvT hZ (hw _ (List.mem_of_getElem? (i := 53) rfl)))) (mvT hZ (hw _ (List.mem_of_getElem? (i := 53) rfl))) (mvT hZ (hw _ (List.mem_of_getElem? (i := 52) rfl))) (by decide) (backOf (W := 0) (rm10u l Z aw hw [] b8 cs wf b9 sb10 (nar .byte ((((nar .char w2) >>> ((0 : Int32) &&& 31))).toInt8.toInt32)) (nar .byte ((((nar .char w2) >>> ((8 : Int32) &&& 31))).toInt8.toInt32)) (nar .byte ((((120 : Int32) >>> ((0 : Int32) &&& 31))).toInt8.toInt32)) (nar .byte ((((120 : Int32) >>> ((8 : Int32) &&& 31))).toInt8.toInt32)) (nar .char w2) T11.heap n0 Z11 O11 S_cs hcs S_sf hwf S_ad S_hi S_lo E11_b8 Ft11 Fp11 ge_b8 E11_b9 F11_b9_coder F11_b9_value A11_sb10 ne_b8_b9 ne_b8_sb10 (own_gc hk) hbk) hZ (hw _ (List.mem_of_getElem? (i := 54) rfl)) (hw _ (List.mem_of_getElem? (i := 2) rfl)) (by decide) (by decide)) q12a q12c (g := (mkF m 120 #[.val (.int p0), .val (.int z1), .val (.int w2), .val (.int (0 : Int32)), .val (.ref b5), .val (.ref b8), .val (.int (1 : Int32))] [(.ref b8)])) rfl (by rw [hml]; rfl) (Steps.refl _) (argsL := []) (rest := []) (lenOf pd_2829I rfl) rfl (by show 2 * 0 + _ ≤ _; exact Nat.le_of_eq rfl) (hb hby at_120) (fun _ _ => ⟨rfl, rfl, (by decide : 5 + 0 ≤ _), (by decide : 16 + 0 ≤ _)⟩)
        dsimp only [Pt.U, Pt.locs, Pt.cells, Pt.slots] at X12 lz12 yz12 zz12 st12 hQ12
        subst lz12 yz12 zz12
        obtain ⟨rfl, N12q, K12⟩ := hQ12
        have E12_b5 := Exa.keep E11_b5 K12
        have E12_b8 := Exa.keep E11_b8 K12
        have E12_b9 := Exa.keep E11_b9 K12
        have F12_b9_coder := Fld.keep F11_b9_coder K12 (ninS (Ne.symm ne_b8_b9) nin0)
        have F12_b9_value := Fld.keep F11_b9_value K12 (ninS (Ne.symm ne_b8_b9) nin0)
        have A12_b5 := Ary.keep A11_b5 K12 (ninS ne_b5_b8 nin0)
        have A12_sb10 := Ary.keep A11_sb10 K12 (ninS (Ne.symm ne_b8_sb10) nin0)
        have O12 : Old Z n0 T12.heap := O11.keep K12 (allS ge_b8 all0)
        have Z12 : n0 ≤ T12.heap.size := Nat.le_trans Z11 K12.1
        have N12 := Fr.app N11 N12q
        refine go (fun _ k => st12.trans k) ?_
        show Run _ _ _ _ _ _ _ T12 (mkF m 123 #[.val (.int p0), .val (.int z1), .val (.int w2), .val (.int (0 : Int32)), .val (.ref b5), .val (.ref b8), .val (.int (1 : Int32))] [(.int (1 : Int32))])
        refine go (T' := T12) (f' := (mkF m 125 #[.val (.int p0), .val (.int z1), .val (.int w2), .val (.int (0 : Int32)), .val (.ref b5), .val (.ref b8), .val (.int (1 : Int32))] [(.int (1 : Int32)), (.int (1 : Int32))])) (by intro t k; exact XS.iload X12.here hx rfl (hb hby at_123) rfl k) ?_
        refine go (T' := T12) (f' := (mkF m 128 #[.val (.int p0), .val (.int z1), .val (.int w2), .val (.int (0 : Int32)), .val (.ref b5), .val (.ref b8), .val (.int (1 : Int32))] [])) (by intro t k; exact XS.icmpNo X12.here hx rfl (hb hby at_125) rfl (teq (rfl : (1 : Int32) = (1 : Int32))).2 k) ?_
        refine go (T' := T12) (f' := (mkF m 129 #[.val (.int p0), .val (.int z1), .val (.int w2), .val (.int (0 : Int32)), .val (.ref b5), .val (.ref b8), .val (.int (1 : Int32))] [(.int (1 : Int32))])) (by intro t k; exact XS.iconst X12.here hx rfl (hb hby at_128) k) ?_
        refine go (T' := T12) (f' := (mkF m 133 #[.val (.int p0), .val (.int z1), .val (.int w2), .val (.int (0 : Int32)), .val (.ref b5), .val (.ref b8), .val (.int (1 : Int32))] [(.int (1 : Int32))])) (by intro t k; exact XS.goto X12.here hx rfl (pc0 := 129) (pc' := 133) rfl (hb hby at_129) (by decide) (by decide) k) ?_
        refine retZ X12 hx (t := .boolean) Bd.returns (by simp) (hb hby at_133) hlk (by decide) (by decide) ?_
        show Q0 Z p0 cs wf h0 n0 _ T12.heap _
        have hv' : (nar .boolean (1 : Int32)) = (1 : Int32) := by
          rfl
        have hv : (some (.int (nar .boolean (1 : Int32))) : Option Value) = some (.int (1 : Int32)) := congrArg (fun z => (some (.int z) : Option Value)) hv'
        exact ⟨hv, N12⟩
      · subst ez
        show Run _ _ _ _ _ _ _ T4 (mkF m 74 #[.val (.int p0), .val (.int z1), .val (.int w2), .val (.int (0 : Int32)), .unset, .unset, .unset] [])
        refine go (T' := T4) (f' := (mkF m 75 #[.val (.int p0), .val (.int z1), .val (.int w2), .val (.int (0 : Int32)), .unset, .unset, .unset] [(.int (2 : Int32))])) (by intro t k; exact XS.iconst X4.here hx rfl (hb hby at_74) k) ?_
        obtain ⟨T13, h13, kA13, X13, e13, E13, A13, EX13, st13⟩ := newPE X4 hx hZ (hw _ (List.mem_of_getElem? (i := 5) rfl)) e4 (g := (mkF m 75 #[.val (.int p0), .val (.int z1), .val (.int w2), .val (.int (0 : Int32)), .unset, .unset, .unset] [(.int (2 : Int32))])) rfl (hb hby at_75) rfl (by decide) (cap := 2) (by decide) (by decide) (by decide) (by decide) (ad := "[C") (by decide)
        obtain ⟨b13, g13⟩ : ∃ z, z = h0.size := ⟨_, rfl⟩
        rw [← g13] at A13 EX13 st13
        have ge_b13 : n0 ≤ b13 := Nat.le_trans Z0 (Nat.le_of_eq g13.symm)
        have K13 : Keep h0 h13 [] := (Keep.refl _ _).ext E13
        have O13 : Old Z n0 h13 := O0.keep K13 all0
        have Z13 : n0 ≤ h13.size := Nat.le_trans Z0 K13.1
        have V13 : Ary Z h13 b13 .char [(.int (0 : Int32)), (.int (0 : Int32))] := Ary.new A13
        refine go st13 ?_
        show Run _ _ _ _ _ _ _ T13 (mkF m 77 #[.val (.int p0), .val (.int z1), .val (.int w2), .val (.int (0 : Int32)), .unset, .unset, .unset] [(.ref b13)])
        refine go (T' := T13) (f' := (mkF m 78 #[.val (.int p0), .val (.int z1), .val (.int w2), .val (.int (0 : Int32)), .unset, .unset, .unset] [(.ref b13), (.ref b13)])) (by intro t k; exact XS.dup X13.here hx rfl (hb hby at_77) rfl rfl k) ?_
        refine go (T' := T13) (f' := (mkF m 79 #[.val (.int p0), .val (.int z1), .val (.int w2), .val (.int (0 : Int32)), .unset, .unset, .unset] [(.int (0 : Int32)), (.ref b13), (.ref b13)])) (by intro t k; exact XS.iconst X13.here hx rfl (hb hby at_78) k) ?_
        refine go (T' := T13) (f' := (mkF m 80 #[.val (.int p0), .val (.int z1), .val (.int w2), .val (.int (0 : Int32)), .unset, .unset, .unset] [(.int w2), (.int (0 : Int32)), (.ref b13), (.ref b13)])) (by intro t k; exact XS.iloadN X13.here hx rfl (hb hby at_79) rfl k) ?_
        obtain ⟨cl14, Ar14, hin14⟩ := Ary.st (j := (0 : Int32)) V13 (by decide) (by show (0 : Int32).toNatClampNeg < 2; decide)
        obtain ⟨T14, h14, X14, e14, W14, st14⟩ := stC X13 hx hZ e13 Ar14 (j := (0 : Int32)) hin14 (g := (mkF m 80 #[.val (.int p0), .val (.int z1), .val (.int w2), .val (.int (0 : Int32)), .unset, .unset, .unset] [(.int w2), (.int (0 : Int32)), (.ref b13), (.ref b13)])) rfl rfl (hb hby at_80)
        have K14 : Keep h13 h14 [b13] := Keep.of_wr W14
        have V14 : Ary Z h14 b13 .char [(.int (nar .char w2)), (.int (0 : Int32))] := Ary.set V13 W14 (fits_nar_char _)
        have N14 := Fr.snoc X14 N4 ge_b13
        have E14_b13 := Exa.keep EX13 K14
        have O14 : Old Z n0 h14 := O13.keep K14 (allS ge_b13 all0)
        have Z14 : n0 ≤ h14.size := Nat.le_trans Z13 K14.1
        refine go st14 ?_
        show Run _ _ _ _ _ _ _ T14 (mkF m 81 #[.val (.int p0), .val (.int z1), .val (.int w2), .val (.int (0 : Int32)), .unset, .unset, .unset] [(.ref b13)])
        refine go (T' := T14) (f' := (mkF m 82 #[.val (.int p0), .val (.int z1), .val (.int w2), .val (.int (0 : Int32)), .unset, .unset, .unset] [(.ref b13), (.ref b13)])) (by intro t k; exact XS.dup X14.here hx rfl (hb hby at_81) rfl rfl k) ?_
        refine go (T' := T14) (f' := (mkF m 83 #[.val (.int p0), .val (.int z1), .val (.int w2), .val (.int (0 : Int32)), .unset, .unset, .unset] [(.int (1 : Int32)), (.ref b13), (.ref b13)])) (by intro t k; exact XS.iconst X14.here hx rfl (hb hby at_82) k) ?_
        refine go (T' := T14) (f' := (mkF m 85 #[.val (.int p0), .val (.int z1), .val (.int w2), .val (.int (0 : Int32)), .unset, .unset, .unset] [(.int (120 : Int32)), (.int (1 : Int32)), (.ref b13), (.ref b13)])) (by intro t k; exact XS.bipush X14.here hx rfl (hb hby at_83) k) ?_
        obtain ⟨cl15, Ar15, hin15⟩ := Ary.st (j := (1 : Int32)) V14 (by decide) (by show (1 : Int32).toNatClampNeg < 2; decide)
        obtain ⟨T15, h15, X15, e15, W15, st15⟩ := stC X14 hx hZ e14 Ar15 (j := (1 : Int32)) hin15 (g := (mkF m 85 #[.val (.int p0), .val (.int z1), .val (.int w2), .val (.int (0 : Int32)), .unset, .unset, .unset] [(.int (120 : Int32)), (.int (1 : Int32)), (.ref b13), (.ref b13)])) rfl rfl (hb hby at_85)
        have K15 : Keep h14 h15 [b13] := Keep.of_wr W15
        have V15 : Ary Z h15 b13 .char [(.int (nar .char w2)), (.int (120 : Int32))] := Ary.set V14 W15 (fits_nar_char _)
        have N15 := Fr.snoc X15 N14 ge_b13
        have E15_b13 := Exa.keep E14_b13 K15
        have O15 : Old Z n0 h15 := O14.keep K15 (allS ge_b13 all0)
        have Z15 : n0 ≤ h15.size := Nat.le_trans Z14 K15.1
        refine go st15 ?_
        show Run _ _ _ _ _ _ _ T15 (mkF m 86 #[.val (.int p0), .val (.int z1), .val (.int w2), .val (.int (0 : Int32)), .unset, .unset, .unset] [(.ref b13)])
        refine go (T' := T15) (f' := (mkF m 88 #[.val (.int p0), .val (.int z1), .val (.int w2), .val (.int (0 : Int32)), .val (.ref b13), .unset, .unset] [])) (by intro t k; exact XS.astore X15.here hx rfl (hb hby at_86) rfl rfl (l' := #[.val (.int p0), .val (.int z1), .val (.int w2), .val (.int (0 : Int32)), .val (.ref b13), .unset, .unset]) rfl k) ?_
        obtain ⟨T16, h16, X16, e16, E16, A16, D16, -, st16⟩ := newO X15 hx hZ hown (hw _ (List.mem_of_getElem? (i := 6) rfl)) (hw _ (List.mem_of_getElem? (i := 7) rfl)) (hw _ (List.mem_of_getElem? (i := 2) rfl)) e15 (g := (mkF m 88 #[.val (.int p0), .val (.int z1), .val (.int w2), .val (.int (0 : Int32)), .val (.ref b13), .unset, .unset] [])) rfl (hb hby at_88) (by decide) (by decide)
        obtain ⟨b16, g16⟩ : ∃ z, z = h15.size := ⟨_, rfl⟩
        rw [← g16] at A16 D16 st16
        have ne_b13_b16 : b13 ≠ b16 := Nat.ne_of_lt (Nat.lt_of_lt_of_eq E15_b13.lt g16.symm)
        have ge_b16 : n0 ≤ b16 := Nat.le_trans Z15 (Nat.le_of_eq g16.symm)
        have K16 : Keep h15 h16 [] := (Keep.refl _ _).ext E16
        have E16_b13 := Exa.keep E15_b13 K16
        have A16_b13 := Ary.keep V15 K16 nin0
        have O16 : Old Z n0 h16 := O15.keep K16 all0
        have Z16 : n0 ≤ h16.size := Nat.le_trans Z15 K16.1
        have F16_b16_text : Fld Z h16 b16 "com/example/settle/settle/io/LineCursor" "text" "Ljava/lang/String;" .null := D16 (Or.inr (hw _ (List.mem_of_getElem? (i := 45) rfl))) (ty := (.object "java/lang/String")) (by decide)
        have F16_b16_line : Fld Z h16 b16 "com/example/settle/settle/io/LineCursor" "line" "I" (.int (0 : Int32)) := D16 (Or.inr (hw _ (List.mem_of_getElem? (i := 47) rfl))) (ty := .int) (by decide)
        have F16_b16_columns : Fld Z h16 b16 "com/example/settle/settle/io/LineCursor" "columns" "Z" (.int (0 : Int32)) := D16 (Or.inr (hw _ (List.mem_of_getElem? (i := 49) rfl))) (ty := .boolean) (by decide)
        have F16_b16_position : Fld Z h16 b16 "com/example/settle/settle/io/LineCursor" "position" "I" (.int (0 : Int32)) := D16 (Or.inl (hw _ (List.mem_of_getElem? (i := 60) rfl))) (ty := .int) (by decide)
        refine go st16 ?_
        show Run _ _ _ _ _ _ _ T16 (mkF m 91 #[.val (.int p0), .val (.int z1), .val (.int w2), .val (.int (0 : Int32)), .val (.ref b13), .unset, .unset] [(.ref b16)])
        refine go (T' := T16) (f' := (mkF m 92 #[.val (.int p0), .val (.int z1), .val (.int w2), .val (.int (0 : Int32)), .val (.ref b13), .unset, .unset] [(.ref b16), (.ref b16)])) (by intro t k; exact XS.dup X16.here hx rfl (hb hby at_91) rfl rfl k) ?_
        obtain ⟨T17, h17, X17, e17, E17, A17, D17, -, st17⟩ := newO X16 hx hZ hown (hw _ (List.mem_of_getElem? (i := 8) rfl)) (hw _ (List.mem_of_getElem? (i := 9) rfl)) (hw _ (List.mem_of_getElem? (i := 10) rfl)) e16 (g := (mkF m 92 #[.val (.int p0), .val (.int z1), .val (.int w2), .val (.int (0 : Int32)), .val (.ref b13), .unset, .unset] [(.ref b16), (.ref b16)])) rfl (hb hby at_92) (by decide) (by decide)
        obtain ⟨b17, g17⟩ : ∃ z, z = h16.size := ⟨_, rfl⟩
        rw [← g17] at A17 D17 st17
        have ne_b13_b17 : b13 ≠ b17 := Nat.ne_of_lt (Nat.lt_of_lt_of_eq E16_b13.lt g17.symm)
        have ne_b16_b17 : b16 ≠ b17 := Nat.ne_of_lt (Nat.lt_of_lt_of_eq A16.lt g17.symm)
        have ge_b17 : n0 ≤ b17 := Nat.le_trans Z16 (Nat.le_of_eq g17.symm)
        have K17 : Keep h16 h17 [] := (Keep.refl _ _).ext E17
        have E17_b13 := Exa.keep E16_b13 K17
        have E17_b16 := Exa.keep A16 K17
        have F17_b16_text := Fld.keep F16_b16_text K17 nin0
        have F17_b16_line := Fld.keep F16_b16_line K17 nin0
        have F17_b16_columns := Fld.keep F16_b16_columns K17 nin0
        have F17_b16_position := Fld.keep F16_b16_position K17 nin0
        have A17_b13 := Ary.keep A16_b13 K17 nin0
        have O17 : Old Z n0 h17 := O16.keep K17 all0
        have Z17 : n0 ≤ h17.size := Nat.le_trans Z16 K17.1
        have F17_b17_coder : Fld Z h17 b17 "java/lang/String" "coder" "B" (.int (0 : Int32)) := D17 (Or.inr (hw _ (List.mem_of_getElem? (i := 34) rfl))) (ty := .byte) (by decide)
        have F17_b17_value : Fld Z h17 b17 "java/lang/String" "value" "[B" .null := D17 (Or.inr (hw _ (List.mem_of_getElem? (i := 36) rfl))) (ty := (.array .byte)) (by decide)
        refine go st17 ?_
        show Run _ _ _ _ _ _ _ T17 (mkF m 95 #[.val (.int p0), .val (.int z1), .val (.int w2), .val (.int (0 : Int32)), .val (.ref b13), .unset, .unset] [(.ref b17), (.ref b16), (.ref b16)])
        refine go (T' := T17) (f' := (mkF m 96 #[.val (.int p0), .val (.int z1), .val (.int w2), .val (.int (0 : Int32)), .val (.ref b13), .unset, .unset] [(.ref b17), (.ref b17), (.ref b16), (.ref b16)])) (by intro t k; exact XS.dup X17.here hx rfl (hb hby at_95) rfl rfl k) ?_
        refine go (T' := T17) (f' := (mkF m 98 #[.val (.int p0), .val (.int z1), .val (.int w2), .val (.int (0 : Int32)), .val (.ref b13), .unset, .unset] [(.ref b13), (.ref b17), (.ref b17), (.ref b16), (.ref b16)])) (by intro t k; exact XS.aload X17.here hx rfl (hb hby at_96) rfl rfl k) ?_
        obtain ⟨_, _, ⟨T18, Lz18, kz18, nz18⟩, -, X18, ⟨Lc18, hQ18, lz18, yz18, zz18⟩, st18⟩ := X17.specialBack hx (y := (⟨"java/lang/String", "<init>", "([C)V"⟩ : MethodName)) rfl hown (mvT hZ (hw _ (List.mem_of_getElem? (i := 11) rfl))) (mvT hZ (hw _ (List.mem_of_getElem? (i := 12) rfl))) (mvT hZ (hw _ (List.mem_of_getElem? (i := 13) rfl))) (by decide) (backOf (W := 3) (rm2n2 l Z aw hw [] b17 b13 cs (nar .char w2) (120 : Int32) h17 n0 Z17 O17 S_cs hcs A17 F17_b17_coder F17_b17_value ge_b17 A17_b13 (Ne.symm ne_b13_b17) hU (by decide)) hZ (hw _ (List.mem_of_getElem? (i := 13) rfl)) (hw _ (List.mem_of_getElem? (i := 10) rfl)) (by decide) (by decide)) (g := (mkF m 98 #[.val (.int p0), .val (.int z1), .val (.int w2), .val (.int (0 : Int32)), .val (.ref b13), .unset, .unset] [(.ref b13), (.ref b17), (.ref b17), (.ref b16), (.ref b16)])) rfl (by rw [hml]; rfl) (Steps.refl _) (a := b17) (argsL := [(.ref b13)]) (rest := [(.ref b17), (.ref b16), (.ref b16)]) (lenOf pd_285bC29V rfl) rfl (by show 2 * 0 + _ ≤ _; exact Nat.le_of_eq rfl) (hb hby at_98) (fun _ _ => ⟨rfl, e17, (by decide : 3 + 1 ≤ _), (by decide : 10 + 2 ≤ _)⟩)
        dsimp only [Pt.U, Pt.locs, Pt.cells, Pt.slots] at X18 lz18 yz18 zz18 st18 hQ18
        subst lz18 yz18 zz18
        obtain ⟨rfl, N18q, K18, sb18, zb18, Fc18, Fv18, Ab18⟩ := hQ18
        have ne_b13_sb18 : b13 ≠ sb18 := Nat.ne_of_lt (Nat.lt_of_lt_of_le E17_b13.lt zb18)
        have ne_b16_sb18 : b16 ≠ sb18 := Nat.ne_of_lt (Nat.lt_of_lt_of_le E17_b16.lt zb18)
        have ne_b17_sb18 : b17 ≠ sb18 := Nat.ne_of_lt (Nat.lt_of_lt_of_le A17.lt zb18)
        have ge_sb18 : n0 ≤ sb18 := Nat.le_trans Z17 zb18
        have E18_b13 := Exa.keep E17_b13 K18
        have E18_b16 := Exa.keep E17_b16 K18
        have E18_b17 := Exa.keep A17 K18
        have F18_b16_text := Fld.keep F17_b16_text K18 (ninS ne_b16_b17 nin0)
        have F18_b16_line := Fld.keep F17_b16_line K18 (ninS ne_b16_b17 nin0)
        have F18_b16_columns := Fld.keep F17_b16_columns K18 (ninS ne_b16_b17 nin0)
        have F18_b16_position := Fld.keep F17_b16_position K18 (ninS ne_b16_b17 nin0)
        have A18_b13 := Ary.keep A17_b13 K18 (ninS ne_b13_b17 nin0)
        have O18 : Old Z n0 T18.heap := O17.keep K18 (allS ge_b17 all0)
        have Z18 : n0 ≤ T18.heap.size := Nat.le_trans Z17 K18.1
        have N18 := Fr.app N15 N18q
        refine go (fun _ k => st18.trans k) ?_
        show Run _ _ _ _ _ _ _ T18 (mkF m 101 #[.val (.int p0), .val (.int z1), .val (.int w2), .val (.int (0 : Int32)), .val (.ref b13), .unset, .unset] [(.ref b17), (.ref b16), (.ref b16)])
        refine go (T' := T18) (f' := (mkF m 102 #[.val (.int p0), .val (.int z1), .val (.int w2), .val (.int (0 : Int32)), .val (.ref b13), .unset, .unset] [(.int (1 : Int32)), (.ref b17), (.ref b16), (.ref b16)])) (by intro t k; exact XS.iconst X18.here hx rfl (hb hby at_101) k) ?_
        obtain ⟨_, _, ⟨T19, Lz19, kz19, nz19⟩, -, X19, ⟨Lc19, hQ19, lz19, yz19, zz19⟩, st19⟩ := X18.specialBack hx (y := (⟨"com/example/settle/settle/io/LineCursor", "<init>", "(Ljava/lang/String;I)V"⟩ : MethodName)) rfl hown (mvT hZ (hw _ (List.mem_of_getElem? (i := 37) rfl))) (mvT hZ (hw _ (List.mem_of_getElem? (i := 38) rfl))) (mvT hZ (hw _ (List.mem_of_getElem? (i := 39) rfl))) (by decide) (backOf (W := 1) (rm8 l Z aw hw [] b16 b17  T18.heap n0 Z18 E18_b16 F18_b16_text F18_b16_line F18_b16_columns F18_b16_position ge_b16 E18_b17 ne_b16_b17) hZ (hw _ (List.mem_of_getElem? (i := 39) rfl)) (hw _ (List.mem_of_getElem? (i := 2) rfl)) (by decide) (by decide)) (g := (mkF m 102 #[.val (.int p0), .val (.int z1), .val (.int w2), .val (.int (0 : Int32)), .val (.ref b13), .unset, .unset] [(.int (1 : Int32)), (.ref b17), (.ref b16), (.ref b16)])) rfl (by rw [hml]; rfl) (Steps.refl _) (a := b16) (argsL := [(.ref b17), (.int (1 : Int32))]) (rest := [(.ref b16)]) (lenOf pd_28Ljava2flang2fString3bI29V rfl) rfl (by show 2 * 0 + _ ≤ _; exact Nat.le_of_eq rfl) (hb hby at_102) (fun _ _ => ⟨rfl, rfl, (by decide : 4 + 0 ≤ _), (by decide : 12 + 0 ≤ _)⟩)
        dsimp only [Pt.U, Pt.locs, Pt.cells, Pt.slots] at X19 lz19 yz19 zz19 st19 hQ19
        subst lz19 yz19 zz19
        obtain ⟨rfl, N19q, K19, Ft19, Fl19, Fz19, Fp19⟩ := hQ19
        have E19_b13 := Exa.keep E18_b13 K19
        have E19_b16 := Exa.keep E18_b16 K19
        have E19_b17 := Exa.keep E18_b17 K19
        have F19_b17_coder := Fld.keep Fc18 K19 (ninS (Ne.symm ne_b16_b17) nin0)
        have F19_b17_value := Fld.keep Fv18 K19 (ninS (Ne.symm ne_b16_b17) nin0)
        have A19_b13 := Ary.keep A18_b13 K19 (ninS ne_b13_b16 nin0)
        have A19_sb18 := Ary.keep Ab18 K19 (ninS (Ne.symm ne_b16_sb18) nin0)
        have O19 : Old Z n0 T19.heap := O18.keep K19 (allS ge_b16 all0)
        have Z19 : n0 ≤ T19.heap.size := Nat.le_trans Z18 K19.1
        have N19 := Fr.app N18 N19q
        refine go (fun _ k => st19.trans k) ?_
        show Run _ _ _ _ _ _ _ T19 (mkF m 105 #[.val (.int p0), .val (.int z1), .val (.int w2), .val (.int (0 : Int32)), .val (.ref b13), .unset, .unset] [(.ref b16)])
        refine go (T' := T19) (f' := (mkF m 107 #[.val (.int p0), .val (.int z1), .val (.int w2), .val (.int (0 : Int32)), .val (.ref b13), .val (.ref b16), .unset] [])) (by intro t k; exact XS.astore X19.here hx rfl (hb hby at_105) rfl rfl (l' := #[.val (.int p0), .val (.int z1), .val (.int w2), .val (.int (0 : Int32)), .val (.ref b13), .val (.ref b16), .unset]) rfl k) ?_
        refine go (T' := T19) (f' := (mkF m 108 #[.val (.int p0), .val (.int z1), .val (.int w2), .val (.int (0 : Int32)), .val (.ref b13), .val (.ref b16), .unset] [(.int (0 : Int32))])) (by intro t k; exact XS.iloadN X19.here hx rfl (hb hby at_107) rfl k) ?_
        refine go (T' := T19) (f' := (mkF m 115 #[.val (.int p0), .val (.int z1), .val (.int w2), .val (.int (0 : Int32)), .val (.ref b13), .val (.ref b16), .unset] [])) (by intro t k; exact XS.ifYes X19.here hx rfl (pc0 := 108) (pc' := 115) rfl (hb hby at_108) rfl ((if0 _ _).trans (teq (rfl : (0 : Int32) = (0 : Int32))).1) (by decide) (by decide) k) ?_
        refine go (T' := T19) (f' := (mkF m 116 #[.val (.int p0), .val (.int z1), .val (.int w2), .val (.int (0 : Int32)), .val (.ref b13), .val (.ref b16), .unset] [(.int (1 : Int32))])) (by intro t k; exact XS.iconst X19.here hx rfl (hb hby at_115) k) ?_
        refine go (T' := T19) (f' := (mkF m 118 #[.val (.int p0), .val (.int z1), .val (.int w2), .val (.int (0 : Int32)), .val (.ref b13), .val (.ref b16), .val (.int (1 : Int32))] [])) (by intro t k; exact XS.istore X19.here hx rfl (hb hby at_116) rfl (l' := #[.val (.int p0), .val (.int z1), .val (.int w2), .val (.int (0 : Int32)), .val (.ref b13), .val (.ref b16), .val (.int (1 : Int32))]) rfl k) ?_
        refine go (T' := T19) (f' := (mkF m 120 #[.val (.int p0), .val (.int z1), .val (.int w2), .val (.int (0 : Int32)), .val (.ref b13), .val (.ref b16), .val (.int (1 : Int32))] [(.ref b16)])) (by intro t k; exact XS.aload X19.here hx rfl (hb hby at_118) rfl rfl k) ?_
        obtain ⟨cq20, kq20, q20a, q20b, q20c⟩ := isOf hZ rfl E19_b16
        obtain ⟨_, _, ⟨T20, Lz20, kz20, nz20⟩, -, X20, ⟨Lc20, hQ20, lz20, yz20, zz20⟩, st20⟩ := X19.virtualBack hx (y := (⟨"com/example/settle/settle/io/LineCursor", "column", "()I"⟩ : MethodName)) (z := (⟨"com/example/settle/settle/io/LineCursor", "column", "()I"⟩ : MethodName)) hown (mvT hZ (hw _ (List.mem_of_getElem? (i := 50) rfl))) (mvT hZ (hw _ (List.mem_of_getElem? (i := 51) rfl))) (notFace_of_selects (args := #[]) (mvT hZ (hw _ (List.mem_of_getElem? (i := 53) rfl)))) (mvT hZ (hw _ (List.mem_of_getElem? (i := 53) rfl))) (mvT hZ (hw _ (List.mem_of_getElem? (i := 52) rfl))) (by decide) (backOf (W := 0) (rm10x l Z aw hw [] b16 cs wf b17 sb18 (nar .byte (((nar .char w2)).toInt8.toInt32)) (nar .byte (((120 : Int32)).toInt8.toInt32)) (nar .char w2) T19.heap n0 Z19 O19 S_cs hcs S_sf hwf S_ad S_hi S_lo E19_b16 Ft19 Fp19 ge_b16 E19_b17 F19_b17_coder F19_b17_value A19_sb18 ne_b16_b17 ne_b16_sb18 (own_latc hk hU) hbk) hZ (hw _ (List.mem_of_getElem? (i := 54) rfl)) (hw _ (List.mem_of_getElem? (i := 2) rfl)) (by decide) (by decide)) q20a q20c (g := (mkF m 120 #[.val (.int p0), .val (.int z1), .val (.int w2), .val (.int (0 : Int32)), .val (.ref b13), .val (.ref b16), .val (.int (1 : Int32))] [(.ref b16)])) rfl (by rw [hml]; rfl) (Steps.refl _) (argsL := []) (rest := []) (lenOf pd_2829I rfl) rfl (by show 2 * 0 + _ ≤ _; exact Nat.le_of_eq rfl) (hb hby at_120) (fun _ _ => ⟨rfl, rfl, (by decide : 4 + 0 ≤ _), (by decide : 12 + 0 ≤ _)⟩)
        dsimp only [Pt.U, Pt.locs, Pt.cells, Pt.slots] at X20 lz20 yz20 zz20 st20 hQ20
        subst lz20 yz20 zz20
        obtain ⟨rfl, N20q, K20⟩ := hQ20
        have E20_b13 := Exa.keep E19_b13 K20
        have E20_b16 := Exa.keep E19_b16 K20
        have E20_b17 := Exa.keep E19_b17 K20
        have F20_b17_coder := Fld.keep F19_b17_coder K20 (ninS (Ne.symm ne_b16_b17) nin0)
        have F20_b17_value := Fld.keep F19_b17_value K20 (ninS (Ne.symm ne_b16_b17) nin0)
        have A20_b13 := Ary.keep A19_b13 K20 (ninS ne_b13_b16 nin0)
        have A20_sb18 := Ary.keep A19_sb18 K20 (ninS (Ne.symm ne_b16_sb18) nin0)
        have O20 : Old Z n0 T20.heap := O19.keep K20 (allS ge_b16 all0)
        have Z20 : n0 ≤ T20.heap.size := Nat.le_trans Z19 K20.1
        have N20 := Fr.app N19 N20q
        refine go (fun _ k => st20.trans k) ?_
        show Run _ _ _ _ _ _ _ T20 (mkF m 123 #[.val (.int p0), .val (.int z1), .val (.int w2), .val (.int (0 : Int32)), .val (.ref b13), .val (.ref b16), .val (.int (1 : Int32))] [(.int (1 : Int32))])
        refine go (T' := T20) (f' := (mkF m 125 #[.val (.int p0), .val (.int z1), .val (.int w2), .val (.int (0 : Int32)), .val (.ref b13), .val (.ref b16), .val (.int (1 : Int32))] [(.int (1 : Int32)), (.int (1 : Int32))])) (by intro t k; exact XS.iload X20.here hx rfl (hb hby at_123) rfl k) ?_
        refine go (T' := T20) (f' := (mkF m 128 #[.val (.int p0), .val (.int z1), .val (.int w2), .val (.int (0 : Int32)), .val (.ref b13), .val (.ref b16), .val (.int (1 : Int32))] [])) (by intro t k; exact XS.icmpNo X20.here hx rfl (hb hby at_125) rfl (teq (rfl : (1 : Int32) = (1 : Int32))).2 k) ?_
        refine go (T' := T20) (f' := (mkF m 129 #[.val (.int p0), .val (.int z1), .val (.int w2), .val (.int (0 : Int32)), .val (.ref b13), .val (.ref b16), .val (.int (1 : Int32))] [(.int (1 : Int32))])) (by intro t k; exact XS.iconst X20.here hx rfl (hb hby at_128) k) ?_
        refine go (T' := T20) (f' := (mkF m 133 #[.val (.int p0), .val (.int z1), .val (.int w2), .val (.int (0 : Int32)), .val (.ref b13), .val (.ref b16), .val (.int (1 : Int32))] [(.int (1 : Int32))])) (by intro t k; exact XS.goto X20.here hx rfl (pc0 := 129) (pc' := 133) rfl (hb hby at_129) (by decide) (by decide) k) ?_
        refine retZ X20 hx (t := .boolean) Bd.returns (by simp) (hb hby at_133) hlk (by decide) (by decide) ?_
        show Q0 Z p0 cs wf h0 n0 _ T20.heap _
        have hv' : (nar .boolean (1 : Int32)) = (1 : Int32) := by
          rfl
        have hv : (some (.int (nar .boolean (1 : Int32))) : Option Value) = some (.int (1 : Int32)) := congrArg (fun z => (some (.int z) : Option Value)) hv'
        exact ⟨hv, N20⟩
      · subst ez
        show Run _ _ _ _ _ _ _ T4 (mkF m 74 #[.val (.int p0), .val (.int z1), .val (.int w2), .val (.int (1 : Int32)), .unset, .unset, .unset] [])
        refine go (T' := T4) (f' := (mkF m 75 #[.val (.int p0), .val (.int z1), .val (.int w2), .val (.int (1 : Int32)), .unset, .unset, .unset] [(.int (2 : Int32))])) (by intro t k; exact XS.iconst X4.here hx rfl (hb hby at_74) k) ?_
        obtain ⟨T21, h21, kA21, X21, e21, E21, A21, EX21, st21⟩ := newPE X4 hx hZ (hw _ (List.mem_of_getElem? (i := 5) rfl)) e4 (g := (mkF m 75 #[.val (.int p0), .val (.int z1), .val (.int w2), .val (.int (1 : Int32)), .unset, .unset, .unset] [(.int (2 : Int32))])) rfl (hb hby at_75) rfl (by decide) (cap := 2) (by decide) (by decide) (by decide) (by decide) (ad := "[C") (by decide)
        obtain ⟨b21, g21⟩ : ∃ z, z = h0.size := ⟨_, rfl⟩
        rw [← g21] at A21 EX21 st21
        have ge_b21 : n0 ≤ b21 := Nat.le_trans Z0 (Nat.le_of_eq g21.symm)
        have K21 : Keep h0 h21 [] := (Keep.refl _ _).ext E21
        have O21 : Old Z n0 h21 := O0.keep K21 all0
        have Z21 : n0 ≤ h21.size := Nat.le_trans Z0 K21.1
        have V21 : Ary Z h21 b21 .char [(.int (0 : Int32)), (.int (0 : Int32))] := Ary.new A21
        refine go st21 ?_
        show Run _ _ _ _ _ _ _ T21 (mkF m 77 #[.val (.int p0), .val (.int z1), .val (.int w2), .val (.int (1 : Int32)), .unset, .unset, .unset] [(.ref b21)])
        refine go (T' := T21) (f' := (mkF m 78 #[.val (.int p0), .val (.int z1), .val (.int w2), .val (.int (1 : Int32)), .unset, .unset, .unset] [(.ref b21), (.ref b21)])) (by intro t k; exact XS.dup X21.here hx rfl (hb hby at_77) rfl rfl k) ?_
        refine go (T' := T21) (f' := (mkF m 79 #[.val (.int p0), .val (.int z1), .val (.int w2), .val (.int (1 : Int32)), .unset, .unset, .unset] [(.int (0 : Int32)), (.ref b21), (.ref b21)])) (by intro t k; exact XS.iconst X21.here hx rfl (hb hby at_78) k) ?_
        refine go (T' := T21) (f' := (mkF m 80 #[.val (.int p0), .val (.int z1), .val (.int w2), .val (.int (1 : Int32)), .unset, .unset, .unset] [(.int w2), (.int (0 : Int32)), (.ref b21), (.ref b21)])) (by intro t k; exact XS.iloadN X21.here hx rfl (hb hby at_79) rfl k) ?_
        obtain ⟨cl22, Ar22, hin22⟩ := Ary.st (j := (0 : Int32)) V21 (by decide) (by show (0 : Int32).toNatClampNeg < 2; decide)
        obtain ⟨T22, h22, X22, e22, W22, st22⟩ := stC X21 hx hZ e21 Ar22 (j := (0 : Int32)) hin22 (g := (mkF m 80 #[.val (.int p0), .val (.int z1), .val (.int w2), .val (.int (1 : Int32)), .unset, .unset, .unset] [(.int w2), (.int (0 : Int32)), (.ref b21), (.ref b21)])) rfl rfl (hb hby at_80)
        have K22 : Keep h21 h22 [b21] := Keep.of_wr W22
        have V22 : Ary Z h22 b21 .char [(.int (nar .char w2)), (.int (0 : Int32))] := Ary.set V21 W22 (fits_nar_char _)
        have N22 := Fr.snoc X22 N4 ge_b21
        have E22_b21 := Exa.keep EX21 K22
        have O22 : Old Z n0 h22 := O21.keep K22 (allS ge_b21 all0)
        have Z22 : n0 ≤ h22.size := Nat.le_trans Z21 K22.1
        refine go st22 ?_
        show Run _ _ _ _ _ _ _ T22 (mkF m 81 #[.val (.int p0), .val (.int z1), .val (.int w2), .val (.int (1 : Int32)), .unset, .unset, .unset] [(.ref b21)])
        refine go (T' := T22) (f' := (mkF m 82 #[.val (.int p0), .val (.int z1), .val (.int w2), .val (.int (1 : Int32)), .unset, .unset, .unset] [(.ref b21), (.ref b21)])) (by intro t k; exact XS.dup X22.here hx rfl (hb hby at_81) rfl rfl k) ?_
        refine go (T' := T22) (f' := (mkF m 83 #[.val (.int p0), .val (.int z1), .val (.int w2), .val (.int (1 : Int32)), .unset, .unset, .unset] [(.int (1 : Int32)), (.ref b21), (.ref b21)])) (by intro t k; exact XS.iconst X22.here hx rfl (hb hby at_82) k) ?_
        refine go (T' := T22) (f' := (mkF m 85 #[.val (.int p0), .val (.int z1), .val (.int w2), .val (.int (1 : Int32)), .unset, .unset, .unset] [(.int (120 : Int32)), (.int (1 : Int32)), (.ref b21), (.ref b21)])) (by intro t k; exact XS.bipush X22.here hx rfl (hb hby at_83) k) ?_
        obtain ⟨cl23, Ar23, hin23⟩ := Ary.st (j := (1 : Int32)) V22 (by decide) (by show (1 : Int32).toNatClampNeg < 2; decide)
        obtain ⟨T23, h23, X23, e23, W23, st23⟩ := stC X22 hx hZ e22 Ar23 (j := (1 : Int32)) hin23 (g := (mkF m 85 #[.val (.int p0), .val (.int z1), .val (.int w2), .val (.int (1 : Int32)), .unset, .unset, .unset] [(.int (120 : Int32)), (.int (1 : Int32)), (.ref b21), (.ref b21)])) rfl rfl (hb hby at_85)
        have K23 : Keep h22 h23 [b21] := Keep.of_wr W23
        have V23 : Ary Z h23 b21 .char [(.int (nar .char w2)), (.int (120 : Int32))] := Ary.set V22 W23 (fits_nar_char _)
        have N23 := Fr.snoc X23 N22 ge_b21
        have E23_b21 := Exa.keep E22_b21 K23
        have O23 : Old Z n0 h23 := O22.keep K23 (allS ge_b21 all0)
        have Z23 : n0 ≤ h23.size := Nat.le_trans Z22 K23.1
        refine go st23 ?_
        show Run _ _ _ _ _ _ _ T23 (mkF m 86 #[.val (.int p0), .val (.int z1), .val (.int w2), .val (.int (1 : Int32)), .unset, .unset, .unset] [(.ref b21)])
        refine go (T' := T23) (f' := (mkF m 88 #[.val (.int p0), .val (.int z1), .val (.int w2), .val (.int (1 : Int32)), .val (.ref b21), .unset, .unset] [])) (by intro t k; exact XS.astore X23.here hx rfl (hb hby at_86) rfl rfl (l' := #[.val (.int p0), .val (.int z1), .val (.int w2), .val (.int (1 : Int32)), .val (.ref b21), .unset, .unset]) rfl k) ?_
        obtain ⟨T24, h24, X24, e24, E24, A24, D24, -, st24⟩ := newO X23 hx hZ hown (hw _ (List.mem_of_getElem? (i := 6) rfl)) (hw _ (List.mem_of_getElem? (i := 7) rfl)) (hw _ (List.mem_of_getElem? (i := 2) rfl)) e23 (g := (mkF m 88 #[.val (.int p0), .val (.int z1), .val (.int w2), .val (.int (1 : Int32)), .val (.ref b21), .unset, .unset] [])) rfl (hb hby at_88) (by decide) (by decide)
        obtain ⟨b24, g24⟩ : ∃ z, z = h23.size := ⟨_, rfl⟩
        rw [← g24] at A24 D24 st24
        have ne_b21_b24 : b21 ≠ b24 := Nat.ne_of_lt (Nat.lt_of_lt_of_eq E23_b21.lt g24.symm)
        have ge_b24 : n0 ≤ b24 := Nat.le_trans Z23 (Nat.le_of_eq g24.symm)
        have K24 : Keep h23 h24 [] := (Keep.refl _ _).ext E24
        have E24_b21 := Exa.keep E23_b21 K24
        have A24_b21 := Ary.keep V23 K24 nin0
        have O24 : Old Z n0 h24 := O23.keep K24 all0
        have Z24 : n0 ≤ h24.size := Nat.le_trans Z23 K24.1
        have F24_b24_text : Fld Z h24 b24 "com/example/settle/settle/io/LineCursor" "text" "Ljava/lang/String;" .null := D24 (Or.inr (hw _ (List.mem_of_getElem? (i := 45) rfl))) (ty := (.object "java/lang/String")) (by decide)
        have F24_b24_line : Fld Z h24 b24 "com/example/settle/settle/io/LineCursor" "line" "I" (.int (0 : Int32)) := D24 (Or.inr (hw _ (List.mem_of_getElem? (i := 47) rfl))) (ty := .int) (by decide)
        have F24_b24_columns : Fld Z h24 b24 "com/example/settle/settle/io/LineCursor" "columns" "Z" (.int (0 : Int32)) := D24 (Or.inr (hw _ (List.mem_of_getElem? (i := 49) rfl))) (ty := .boolean) (by decide)
        have F24_b24_position : Fld Z h24 b24 "com/example/settle/settle/io/LineCursor" "position" "I" (.int (0 : Int32)) := D24 (Or.inl (hw _ (List.mem_of_getElem? (i := 60) rfl))) (ty := .int) (by decide)
        refine go st24 ?_
        show Run _ _ _ _ _ _ _ T24 (mkF m 91 #[.val (.int p0), .val (.int z1), .val (.int w2), .val (.int (1 : Int32)), .val (.ref b21), .unset, .unset] [(.ref b24)])
        refine go (T' := T24) (f' := (mkF m 92 #[.val (.int p0), .val (.int z1), .val (.int w2), .val (.int (1 : Int32)), .val (.ref b21), .unset, .unset] [(.ref b24), (.ref b24)])) (by intro t k; exact XS.dup X24.here hx rfl (hb hby at_91) rfl rfl k) ?_
        obtain ⟨T25, h25, X25, e25, E25, A25, D25, -, st25⟩ := newO X24 hx hZ hown (hw _ (List.mem_of_getElem? (i := 8) rfl)) (hw _ (List.mem_of_getElem? (i := 9) rfl)) (hw _ (List.mem_of_getElem? (i := 10) rfl)) e24 (g := (mkF m 92 #[.val (.int p0), .val (.int z1), .val (.int w2), .val (.int (1 : Int32)), .val (.ref b21), .unset, .unset] [(.ref b24), (.ref b24)])) rfl (hb hby at_92) (by decide) (by decide)
        obtain ⟨b25, g25⟩ : ∃ z, z = h24.size := ⟨_, rfl⟩
        rw [← g25] at A25 D25 st25
        have ne_b21_b25 : b21 ≠ b25 := Nat.ne_of_lt (Nat.lt_of_lt_of_eq E24_b21.lt g25.symm)
        have ne_b24_b25 : b24 ≠ b25 := Nat.ne_of_lt (Nat.lt_of_lt_of_eq A24.lt g25.symm)
        have ge_b25 : n0 ≤ b25 := Nat.le_trans Z24 (Nat.le_of_eq g25.symm)
        have K25 : Keep h24 h25 [] := (Keep.refl _ _).ext E25
        have E25_b21 := Exa.keep E24_b21 K25
        have E25_b24 := Exa.keep A24 K25
        have F25_b24_text := Fld.keep F24_b24_text K25 nin0
        have F25_b24_line := Fld.keep F24_b24_line K25 nin0
        have F25_b24_columns := Fld.keep F24_b24_columns K25 nin0
        have F25_b24_position := Fld.keep F24_b24_position K25 nin0
        have A25_b21 := Ary.keep A24_b21 K25 nin0
        have O25 : Old Z n0 h25 := O24.keep K25 all0
        have Z25 : n0 ≤ h25.size := Nat.le_trans Z24 K25.1
        have F25_b25_coder : Fld Z h25 b25 "java/lang/String" "coder" "B" (.int (0 : Int32)) := D25 (Or.inr (hw _ (List.mem_of_getElem? (i := 34) rfl))) (ty := .byte) (by decide)
        have F25_b25_value : Fld Z h25 b25 "java/lang/String" "value" "[B" .null := D25 (Or.inr (hw _ (List.mem_of_getElem? (i := 36) rfl))) (ty := (.array .byte)) (by decide)
        refine go st25 ?_
        show Run _ _ _ _ _ _ _ T25 (mkF m 95 #[.val (.int p0), .val (.int z1), .val (.int w2), .val (.int (1 : Int32)), .val (.ref b21), .unset, .unset] [(.ref b25), (.ref b24), (.ref b24)])
        refine go (T' := T25) (f' := (mkF m 96 #[.val (.int p0), .val (.int z1), .val (.int w2), .val (.int (1 : Int32)), .val (.ref b21), .unset, .unset] [(.ref b25), (.ref b25), (.ref b24), (.ref b24)])) (by intro t k; exact XS.dup X25.here hx rfl (hb hby at_95) rfl rfl k) ?_
        refine go (T' := T25) (f' := (mkF m 98 #[.val (.int p0), .val (.int z1), .val (.int w2), .val (.int (1 : Int32)), .val (.ref b21), .unset, .unset] [(.ref b21), (.ref b25), (.ref b25), (.ref b24), (.ref b24)])) (by intro t k; exact XS.aload X25.here hx rfl (hb hby at_96) rfl rfl k) ?_
        obtain ⟨_, _, ⟨T26, Lz26, kz26, nz26⟩, -, X26, ⟨Lc26, hQ26, lz26, yz26, zz26⟩, st26⟩ := X25.specialBack hx (y := (⟨"java/lang/String", "<init>", "([C)V"⟩ : MethodName)) rfl hown (mvT hZ (hw _ (List.mem_of_getElem? (i := 11) rfl))) (mvT hZ (hw _ (List.mem_of_getElem? (i := 12) rfl))) (mvT hZ (hw _ (List.mem_of_getElem? (i := 13) rfl))) (by decide) (backOf (W := 3) (rm2n2 l Z aw hw [] b25 b21 cs (nar .char w2) (120 : Int32) h25 n0 Z25 O25 S_cs hcs A25 F25_b25_coder F25_b25_value ge_b25 A25_b21 (Ne.symm ne_b21_b25) hU (by decide)) hZ (hw _ (List.mem_of_getElem? (i := 13) rfl)) (hw _ (List.mem_of_getElem? (i := 10) rfl)) (by decide) (by decide)) (g := (mkF m 98 #[.val (.int p0), .val (.int z1), .val (.int w2), .val (.int (1 : Int32)), .val (.ref b21), .unset, .unset] [(.ref b21), (.ref b25), (.ref b25), (.ref b24), (.ref b24)])) rfl (by rw [hml]; rfl) (Steps.refl _) (a := b25) (argsL := [(.ref b21)]) (rest := [(.ref b25), (.ref b24), (.ref b24)]) (lenOf pd_285bC29V rfl) rfl (by show 2 * 0 + _ ≤ _; exact Nat.le_of_eq rfl) (hb hby at_98) (fun _ _ => ⟨rfl, e25, (by decide : 3 + 1 ≤ _), (by decide : 10 + 2 ≤ _)⟩)
        dsimp only [Pt.U, Pt.locs, Pt.cells, Pt.slots] at X26 lz26 yz26 zz26 st26 hQ26
        subst lz26 yz26 zz26
        obtain ⟨rfl, N26q, K26, sb26, zb26, Fc26, Fv26, Ab26⟩ := hQ26
        have ne_b21_sb26 : b21 ≠ sb26 := Nat.ne_of_lt (Nat.lt_of_lt_of_le E25_b21.lt zb26)
        have ne_b24_sb26 : b24 ≠ sb26 := Nat.ne_of_lt (Nat.lt_of_lt_of_le E25_b24.lt zb26)
        have ne_b25_sb26 : b25 ≠ sb26 := Nat.ne_of_lt (Nat.lt_of_lt_of_le A25.lt zb26)
        have ge_sb26 : n0 ≤ sb26 := Nat.le_trans Z25 zb26
        have E26_b21 := Exa.keep E25_b21 K26
        have E26_b24 := Exa.keep E25_b24 K26
        have E26_b25 := Exa.keep A25 K26
        have F26_b24_text := Fld.keep F25_b24_text K26 (ninS ne_b24_b25 nin0)
        have F26_b24_line := Fld.keep F25_b24_line K26 (ninS ne_b24_b25 nin0)
        have F26_b24_columns := Fld.keep F25_b24_columns K26 (ninS ne_b24_b25 nin0)
        have F26_b24_position := Fld.keep F25_b24_position K26 (ninS ne_b24_b25 nin0)
        have A26_b21 := Ary.keep A25_b21 K26 (ninS ne_b21_b25 nin0)
        have O26 : Old Z n0 T26.heap := O25.keep K26 (allS ge_b25 all0)
        have Z26 : n0 ≤ T26.heap.size := Nat.le_trans Z25 K26.1
        have N26 := Fr.app N23 N26q
        refine go (fun _ k => st26.trans k) ?_
        show Run _ _ _ _ _ _ _ T26 (mkF m 101 #[.val (.int p0), .val (.int z1), .val (.int w2), .val (.int (1 : Int32)), .val (.ref b21), .unset, .unset] [(.ref b25), (.ref b24), (.ref b24)])
        refine go (T' := T26) (f' := (mkF m 102 #[.val (.int p0), .val (.int z1), .val (.int w2), .val (.int (1 : Int32)), .val (.ref b21), .unset, .unset] [(.int (1 : Int32)), (.ref b25), (.ref b24), (.ref b24)])) (by intro t k; exact XS.iconst X26.here hx rfl (hb hby at_101) k) ?_
        obtain ⟨_, _, ⟨T27, Lz27, kz27, nz27⟩, -, X27, ⟨Lc27, hQ27, lz27, yz27, zz27⟩, st27⟩ := X26.specialBack hx (y := (⟨"com/example/settle/settle/io/LineCursor", "<init>", "(Ljava/lang/String;I)V"⟩ : MethodName)) rfl hown (mvT hZ (hw _ (List.mem_of_getElem? (i := 37) rfl))) (mvT hZ (hw _ (List.mem_of_getElem? (i := 38) rfl))) (mvT hZ (hw _ (List.mem_of_getElem? (i := 39) rfl))) (by decide) (backOf (W := 1) (rm8 l Z aw hw [] b24 b25  T26.heap n0 Z26 E26_b24 F26_b24_text F26_b24_line F26_b24_columns F26_b24_position ge_b24 E26_b25 ne_b24_b25) hZ (hw _ (List.mem_of_getElem? (i := 39) rfl)) (hw _ (List.mem_of_getElem? (i := 2) rfl)) (by decide) (by decide)) (g := (mkF m 102 #[.val (.int p0), .val (.int z1), .val (.int w2), .val (.int (1 : Int32)), .val (.ref b21), .unset, .unset] [(.int (1 : Int32)), (.ref b25), (.ref b24), (.ref b24)])) rfl (by rw [hml]; rfl) (Steps.refl _) (a := b24) (argsL := [(.ref b25), (.int (1 : Int32))]) (rest := [(.ref b24)]) (lenOf pd_28Ljava2flang2fString3bI29V rfl) rfl (by show 2 * 0 + _ ≤ _; exact Nat.le_of_eq rfl) (hb hby at_102) (fun _ _ => ⟨rfl, rfl, (by decide : 4 + 0 ≤ _), (by decide : 12 + 0 ≤ _)⟩)
        dsimp only [Pt.U, Pt.locs, Pt.cells, Pt.slots] at X27 lz27 yz27 zz27 st27 hQ27
        subst lz27 yz27 zz27
        obtain ⟨rfl, N27q, K27, Ft27, Fl27, Fz27, Fp27⟩ := hQ27
        have E27_b21 := Exa.keep E26_b21 K27
        have E27_b24 := Exa.keep E26_b24 K27
        have E27_b25 := Exa.keep E26_b25 K27
        have F27_b25_coder := Fld.keep Fc26 K27 (ninS (Ne.symm ne_b24_b25) nin0)
        have F27_b25_value := Fld.keep Fv26 K27 (ninS (Ne.symm ne_b24_b25) nin0)
        have A27_b21 := Ary.keep A26_b21 K27 (ninS ne_b21_b24 nin0)
        have A27_sb26 := Ary.keep Ab26 K27 (ninS (Ne.symm ne_b24_sb26) nin0)
        have O27 : Old Z n0 T27.heap := O26.keep K27 (allS ge_b24 all0)
        have Z27 : n0 ≤ T27.heap.size := Nat.le_trans Z26 K27.1
        have N27 := Fr.app N26 N27q
        refine go (fun _ k => st27.trans k) ?_
        show Run _ _ _ _ _ _ _ T27 (mkF m 105 #[.val (.int p0), .val (.int z1), .val (.int w2), .val (.int (1 : Int32)), .val (.ref b21), .unset, .unset] [(.ref b24)])
        refine go (T' := T27) (f' := (mkF m 107 #[.val (.int p0), .val (.int z1), .val (.int w2), .val (.int (1 : Int32)), .val (.ref b21), .val (.ref b24), .unset] [])) (by intro t k; exact XS.astore X27.here hx rfl (hb hby at_105) rfl rfl (l' := #[.val (.int p0), .val (.int z1), .val (.int w2), .val (.int (1 : Int32)), .val (.ref b21), .val (.ref b24), .unset]) rfl k) ?_
        refine go (T' := T27) (f' := (mkF m 108 #[.val (.int p0), .val (.int z1), .val (.int w2), .val (.int (1 : Int32)), .val (.ref b21), .val (.ref b24), .unset] [(.int (1 : Int32))])) (by intro t k; exact XS.iloadN X27.here hx rfl (hb hby at_107) rfl k) ?_
        refine go (T' := T27) (f' := (mkF m 111 #[.val (.int p0), .val (.int z1), .val (.int w2), .val (.int (1 : Int32)), .val (.ref b21), .val (.ref b24), .unset] [])) (by intro t k; exact XS.ifNo X27.here hx rfl (hb hby at_108) rfl ((if0 _ _).trans (feq (by decide : ¬ ((1 : Int32) = (0 : Int32)))).1) k) ?_
        refine go (T' := T27) (f' := (mkF m 112 #[.val (.int p0), .val (.int z1), .val (.int w2), .val (.int (1 : Int32)), .val (.ref b21), .val (.ref b24), .unset] [(.int (2 : Int32))])) (by intro t k; exact XS.iconst X27.here hx rfl (hb hby at_111) k) ?_
        refine go (T' := T27) (f' := (mkF m 116 #[.val (.int p0), .val (.int z1), .val (.int w2), .val (.int (1 : Int32)), .val (.ref b21), .val (.ref b24), .unset] [(.int (2 : Int32))])) (by intro t k; exact XS.goto X27.here hx rfl (pc0 := 112) (pc' := 116) rfl (hb hby at_112) (by decide) (by decide) k) ?_
        refine go (T' := T27) (f' := (mkF m 118 #[.val (.int p0), .val (.int z1), .val (.int w2), .val (.int (1 : Int32)), .val (.ref b21), .val (.ref b24), .val (.int (2 : Int32))] [])) (by intro t k; exact XS.istore X27.here hx rfl (hb hby at_116) rfl (l' := #[.val (.int p0), .val (.int z1), .val (.int w2), .val (.int (1 : Int32)), .val (.ref b21), .val (.ref b24), .val (.int (2 : Int32))]) rfl k) ?_
        refine go (T' := T27) (f' := (mkF m 120 #[.val (.int p0), .val (.int z1), .val (.int w2), .val (.int (1 : Int32)), .val (.ref b21), .val (.ref b24), .val (.int (2 : Int32))] [(.ref b24)])) (by intro t k; exact XS.aload X27.here hx rfl (hb hby at_118) rfl rfl k) ?_
        obtain ⟨cq28, kq28, q28a, q28b, q28c⟩ := isOf hZ rfl E27_b24
        obtain ⟨_, _, ⟨T28, Lz28, kz28, nz28⟩, -, X28, ⟨Lc28, hQ28, lz28, yz28, zz28⟩, st28⟩ := X27.virtualBack hx (y := (⟨"com/example/settle/settle/io/LineCursor", "column", "()I"⟩ : MethodName)) (z := (⟨"com/example/settle/settle/io/LineCursor", "column", "()I"⟩ : MethodName)) hown (mvT hZ (hw _ (List.mem_of_getElem? (i := 50) rfl))) (mvT hZ (hw _ (List.mem_of_getElem? (i := 51) rfl))) (notFace_of_selects (args := #[]) (mvT hZ (hw _ (List.mem_of_getElem? (i := 53) rfl)))) (mvT hZ (hw _ (List.mem_of_getElem? (i := 53) rfl))) (mvT hZ (hw _ (List.mem_of_getElem? (i := 52) rfl))) (by decide) (backOf (W := 0) (rm10b l Z aw hw [] b24 cs wf b25 sb26 (nar .byte (((nar .char w2)).toInt8.toInt32)) (nar .byte (((120 : Int32)).toInt8.toInt32)) (nar .char w2) T27.heap n0 Z27 O27 S_cs hcs S_sf hwf S_ad S_hi S_lo E27_b24 Ft27 Fp27 ge_b24 E27_b25 F27_b25_coder F27_b25_value A27_sb26 ne_b24_b25 ne_b24_sb26 (own_latc hk hU) hbk (by decide)) hZ (hw _ (List.mem_of_getElem? (i := 54) rfl)) (hw _ (List.mem_of_getElem? (i := 2) rfl)) (by decide) (by decide)) q28a q28c (g := (mkF m 120 #[.val (.int p0), .val (.int z1), .val (.int w2), .val (.int (1 : Int32)), .val (.ref b21), .val (.ref b24), .val (.int (2 : Int32))] [(.ref b24)])) rfl (by rw [hml]; rfl) (Steps.refl _) (argsL := []) (rest := []) (lenOf pd_2829I rfl) rfl (by show 2 * 0 + _ ≤ _; exact Nat.le_of_eq rfl) (hb hby at_120) (fun _ _ => ⟨rfl, rfl, (by decide : 4 + 0 ≤ _), (by decide : 12 + 0 ≤ _)⟩)
        dsimp only [Pt.U, Pt.locs, Pt.cells, Pt.slots] at X28 lz28 yz28 zz28 st28 hQ28
        subst lz28 yz28 zz28
        obtain ⟨rfl, N28q, K28⟩ := hQ28
        have E28_b21 := Exa.keep E27_b21 K28
        have E28_b24 := Exa.keep E27_b24 K28
        have E28_b25 := Exa.keep E27_b25 K28
        have F28_b25_coder := Fld.keep F27_b25_coder K28 (ninS (Ne.symm ne_b24_b25) nin0)
        have F28_b25_value := Fld.keep F27_b25_value K28 (ninS (Ne.symm ne_b24_b25) nin0)
        have A28_b21 := Ary.keep A27_b21 K28 (ninS ne_b21_b24 nin0)
        have A28_sb26 := Ary.keep A27_sb26 K28 (ninS (Ne.symm ne_b24_sb26) nin0)
        have O28 : Old Z n0 T28.heap := O27.keep K28 (allS ge_b24 all0)
        have Z28 : n0 ≤ T28.heap.size := Nat.le_trans Z27 K28.1
        have N28 := Fr.app N27 N28q
        refine go (fun _ k => st28.trans k) ?_
        show Run _ _ _ _ _ _ _ T28 (mkF m 123 #[.val (.int p0), .val (.int z1), .val (.int w2), .val (.int (1 : Int32)), .val (.ref b21), .val (.ref b24), .val (.int (2 : Int32))] [(.int (2 : Int32))])
        refine go (T' := T28) (f' := (mkF m 125 #[.val (.int p0), .val (.int z1), .val (.int w2), .val (.int (1 : Int32)), .val (.ref b21), .val (.ref b24), .val (.int (2 : Int32))] [(.int (2 : Int32)), (.int (2 : Int32))])) (by intro t k; exact XS.iload X28.here hx rfl (hb hby at_123) rfl k) ?_
        refine go (T' := T28) (f' := (mkF m 128 #[.val (.int p0), .val (.int z1), .val (.int w2), .val (.int (1 : Int32)), .val (.ref b21), .val (.ref b24), .val (.int (2 : Int32))] [])) (by intro t k; exact XS.icmpNo X28.here hx rfl (hb hby at_125) rfl (teq (rfl : (2 : Int32) = (2 : Int32))).2 k) ?_
        refine go (T' := T28) (f' := (mkF m 129 #[.val (.int p0), .val (.int z1), .val (.int w2), .val (.int (1 : Int32)), .val (.ref b21), .val (.ref b24), .val (.int (2 : Int32))] [(.int (1 : Int32))])) (by intro t k; exact XS.iconst X28.here hx rfl (hb hby at_128) k) ?_
        refine go (T' := T28) (f' := (mkF m 133 #[.val (.int p0), .val (.int z1), .val (.int w2), .val (.int (1 : Int32)), .val (.ref b21), .val (.ref b24), .val (.int (2 : Int32))] [(.int (1 : Int32))])) (by intro t k; exact XS.goto X28.here hx rfl (pc0 := 129) (pc' := 133) rfl (hb hby at_129) (by decide) (by decide) k) ?_
        refine retZ X28 hx (t := .boolean) Bd.returns (by simp) (hb hby at_133) hlk (by decide) (by decide) ?_
        show Q0 Z p0 cs wf h0 n0 _ T28.heap _
        have hv' : (nar .boolean (1 : Int32)) = (1 : Int32) := by
          rfl
        have hv : (some (.int (nar .boolean (1 : Int32))) : Option Value) = some (.int (1 : Int32)) := congrArg (fun z => (some (.int z) : Option Value)) hv'
        exact ⟨hv, N28⟩
    show Run _ _ _ _ _ _ _ T2 (mkF m 43 #[.val (.int p0), .val (.int z1), .val (.int w2), .unset, .unset, .unset, .unset] [(.int (9 : Int32)), (.int w2)])
    by_cases hc43 : w2 = (9 : Int32)
    · refine go (T' := T2) (f' := (mkF m 58 #[.val (.int p0), .val (.int z1), .val (.int w2), .unset, .unset, .unset, .unset] [])) (by intro t k; exact XS.icmpYes X2.here hx rfl (pc0 := 43) (pc' := 58) rfl (hb hby at_43) rfl (teq hc43).1 (by decide) (by decide) k) ?_
      refine go (T' := T2) (f' := (mkF m 59 #[.val (.int p0), .val (.int z1), .val (.int w2), .unset, .unset, .unset, .unset] [(.int (1 : Int32))])) (by intro t k; exact XS.iconst X2.here hx rfl (hb hby at_58) k) ?_
      refine go (T' := T2) (f' := (mkF m 63 #[.val (.int p0), .val (.int z1), .val (.int w2), .unset, .unset, .unset, .unset] [(.int (1 : Int32))])) (by intro t k; exact XS.goto X2.here hx rfl (pc0 := 59) (pc' := 63) rfl (hb hby at_59) (by decide) (by decide) k) ?_
      have ez3 : z3 = (1 : Int32) := (hz3).trans (if_pos hc43)
      subst ez3
      exact J43
    · refine go (T' := T2) (f' := (mkF m 46 #[.val (.int p0), .val (.int z1), .val (.int w2), .unset, .unset, .unset, .unset] [])) (by intro t k; exact XS.icmpNo X2.here hx rfl (hb hby at_43) rfl (feq hc43).1 k) ?_
      refine go (T' := T2) (f' := (mkF m 47 #[.val (.int p0), .val (.int z1), .val (.int w2), .unset, .unset, .unset, .unset] [(.int w2)])) (by intro t k; exact XS.iloadN X2.here hx rfl (hb hby at_46) rfl k) ?_
      refine go (T' := T2) (f' := (mkF m 49 #[.val (.int p0), .val (.int z1), .val (.int w2), .unset, .unset, .unset, .unset] [(.int (13 : Int32)), (.int w2)])) (by intro t k; exact XS.bipush X2.here hx rfl (hb hby at_47) k) ?_
      by_cases hc49 : w2 = (13 : Int32)
      · refine go (T' := T2) (f' := (mkF m 58 #[.val (.int p0), .val (.int z1), .val (.int w2), .unset, .unset, .unset, .unset] [])) (by intro t k; exact XS.icmpYes X2.here hx rfl (pc0 := 49) (pc' := 58) rfl (hb hby at_49) rfl (teq hc49).1 (by decide) (by decide) k) ?_
        refine go (T' := T2) (f' := (mkF m 59 #[.val (.int p0), .val (.int z1), .val (.int w2), .unset, .unset, .unset, .unset] [(.int (1 : Int32))])) (by intro t k; exact XS.iconst X2.here hx rfl (hb hby at_58) k) ?_
        refine go (T' := T2) (f' := (mkF m 63 #[.val (.int p0), .val (.int z1), .val (.int w2), .unset, .unset, .unset, .unset] [(.int (1 : Int32))])) (by intro t k; exact XS.goto X2.here hx rfl (pc0 := 59) (pc' := 63) rfl (hb hby at_59) (by decide) (by decide) k) ?_
        have ez3 : z3 = (1 : Int32) := ((hz3).trans (if_neg hc43)).trans (if_pos hc49)
        subst ez3
        exact J43
      · refine go (T' := T2) (f' := (mkF m 52 #[.val (.int p0), .val (.int z1), .val (.int w2), .unset, .unset, .unset, .unset] [])) (by intro t k; exact XS.icmpNo X2.here hx rfl (hb hby at_49) rfl (feq hc49).1 k) ?_
        refine go (T' := T2) (f' := (mkF m 53 #[.val (.int p0), .val (.int z1), .val (.int w2), .unset, .unset, .unset, .unset] [(.int w2)])) (by intro t k; exact XS.iloadN X2.here hx rfl (hb hby at_52) rfl k) ?_
        refine go (T' := T2) (f' := (mkF m 55 #[.val (.int p0), .val (.int z1), .val (.int w2), .unset, .unset, .unset, .unset] [(.int (32 : Int32)), (.int w2)])) (by intro t k; exact XS.bipush X2.here hx rfl (hb hby at_53) k) ?_
        by_cases hc55 : w2 = (32 : Int32)
        · refine go (T' := T2) (f' := (mkF m 58 #[.val (.int p0), .val (.int z1), .val (.int w2), .unset, .unset, .unset, .unset] [])) (by intro t k; exact XS.icmpNo X2.here hx rfl (hb hby at_55) rfl (teq hc55).2 k) ?_
          refine go (T' := T2) (f' := (mkF m 59 #[.val (.int p0), .val (.int z1), .val (.int w2), .unset, .unset, .unset, .unset] [(.int (1 : Int32))])) (by intro t k; exact XS.iconst X2.here hx rfl (hb hby at_58) k) ?_
          refine go (T' := T2) (f' := (mkF m 63 #[.val (.int p0), .val (.int z1), .val (.int w2), .unset, .unset, .unset, .unset] [(.int (1 : Int32))])) (by intro t k; exact XS.goto X2.here hx rfl (pc0 := 59) (pc' := 63) rfl (hb hby at_59) (by decide) (by decide) k) ?_
          have ez3 : z3 = (1 : Int32) := (((hz3).trans (if_neg hc43)).trans (if_neg hc49)).trans (if_pos hc55)
          subst ez3
          exact J43
        · refine go (T' := T2) (f' := (mkF m 62 #[.val (.int p0), .val (.int z1), .val (.int w2), .unset, .unset, .unset, .unset] [])) (by intro t k; exact XS.icmpYes X2.here hx rfl (pc0 := 55) (pc' := 62) rfl (hb hby at_55) rfl (feq hc55).2 (by decide) (by decide) k) ?_
          refine go (T' := T2) (f' := (mkF m 63 #[.val (.int p0), .val (.int z1), .val (.int w2), .unset, .unset, .unset, .unset] [(.int (0 : Int32))])) (by intro t k; exact XS.iconst X2.here hx rfl (hb hby at_62) k) ?_
          have ez3 : z3 = (0 : Int32) := (((hz3).trans (if_neg hc43)).trans (if_neg hc49)).trans (if_neg hc55)
          subst ez3
          exact J43
  show Run _ _ _ _ _ _ _ s₁ (mkF m 3 #[.val (.int p0), .unset, .unset, .unset, .unset, .unset, .unset] [(.int (9 : Int32)), (.int p0)])
  by_cases hc3 : p0 = (9 : Int32)
  · refine go (T' := s₁) (f' := (mkF m 18 #[.val (.int p0), .unset, .unset, .unset, .unset, .unset, .unset] [])) (by intro t k; exact XS.icmpYes X0.here hx rfl (pc0 := 3) (pc' := 18) rfl (hb hby at_3) rfl (teq hc3).1 (by decide) (by decide) k) ?_
    refine go (T' := s₁) (f' := (mkF m 19 #[.val (.int p0), .unset, .unset, .unset, .unset, .unset, .unset] [(.int (1 : Int32))])) (by intro t k; exact XS.iconst X0.here hx rfl (hb hby at_18) k) ?_
    refine go (T' := s₁) (f' := (mkF m 23 #[.val (.int p0), .unset, .unset, .unset, .unset, .unset, .unset] [(.int (1 : Int32))])) (by intro t k; exact XS.goto X0.here hx rfl (pc0 := 19) (pc' := 23) rfl (hb hby at_19) (by decide) (by decide) k) ?_
    have ez1 : z1 = (1 : Int32) := (hz1).trans (if_pos hc3)
    subst ez1
    exact J3
  · refine go (T' := s₁) (f' := (mkF m 6 #[.val (.int p0), .unset, .unset, .unset, .unset, .unset, .unset] [])) (by intro t k; exact XS.icmpNo X0.here hx rfl (hb hby at_3) rfl (feq hc3).1 k) ?_
    refine go (T' := s₁) (f' := (mkF m 7 #[.val (.int p0), .unset, .unset, .unset, .unset, .unset, .unset] [(.int p0)])) (by intro t k; exact XS.iloadN X0.here hx rfl (hb hby at_6) rfl k) ?_
    refine go (T' := s₁) (f' := (mkF m 9 #[.val (.int p0), .unset, .unset, .unset, .unset, .unset, .unset] [(.int (13 : Int32)), (.int p0)])) (by intro t k; exact XS.bipush X0.here hx rfl (hb hby at_7) k) ?_
    by_cases hc9 : p0 = (13 : Int32)
    · refine go (T' := s₁) (f' := (mkF m 18 #[.val (.int p0), .unset, .unset, .unset, .unset, .unset, .unset] [])) (by intro t k; exact XS.icmpYes X0.here hx rfl (pc0 := 9) (pc' := 18) rfl (hb hby at_9) rfl (teq hc9).1 (by decide) (by decide) k) ?_
      refine go (T' := s₁) (f' := (mkF m 19 #[.val (.int p0), .unset, .unset, .unset, .unset, .unset, .unset] [(.int (1 : Int32))])) (by intro t k; exact XS.iconst X0.here hx rfl (hb hby at_18) k) ?_
      refine go (T' := s₁) (f' := (mkF m 23 #[.val (.int p0), .unset, .unset, .unset, .unset, .unset, .unset] [(.int (1 : Int32))])) (by intro t k; exact XS.goto X0.here hx rfl (pc0 := 19) (pc' := 23) rfl (hb hby at_19) (by decide) (by decide) k) ?_
      have ez1 : z1 = (1 : Int32) := ((hz1).trans (if_neg hc3)).trans (if_pos hc9)
      subst ez1
      exact J3
    · refine go (T' := s₁) (f' := (mkF m 12 #[.val (.int p0), .unset, .unset, .unset, .unset, .unset, .unset] [])) (by intro t k; exact XS.icmpNo X0.here hx rfl (hb hby at_9) rfl (feq hc9).1 k) ?_
      refine go (T' := s₁) (f' := (mkF m 13 #[.val (.int p0), .unset, .unset, .unset, .unset, .unset, .unset] [(.int p0)])) (by intro t k; exact XS.iloadN X0.here hx rfl (hb hby at_12) rfl k) ?_
      refine go (T' := s₁) (f' := (mkF m 15 #[.val (.int p0), .unset, .unset, .unset, .unset, .unset, .unset] [(.int (32 : Int32)), (.int p0)])) (by intro t k; exact XS.bipush X0.here hx rfl (hb hby at_13) k) ?_
      by_cases hc15 : p0 = (32 : Int32)
      · refine go (T' := s₁) (f' := (mkF m 18 #[.val (.int p0), .unset, .unset, .unset, .unset, .unset, .unset] [])) (by intro t k; exact XS.icmpNo X0.here hx rfl (hb hby at_15) rfl (teq hc15).2 k) ?_
        refine go (T' := s₁) (f' := (mkF m 19 #[.val (.int p0), .unset, .unset, .unset, .unset, .unset, .unset] [(.int (1 : Int32))])) (by intro t k; exact XS.iconst X0.here hx rfl (hb hby at_18) k) ?_
        refine go (T' := s₁) (f' := (mkF m 23 #[.val (.int p0), .unset, .unset, .unset, .unset, .unset, .unset] [(.int (1 : Int32))])) (by intro t k; exact XS.goto X0.here hx rfl (pc0 := 19) (pc' := 23) rfl (hb hby at_19) (by decide) (by decide) k) ?_
        have ez1 : z1 = (1 : Int32) := (((hz1).trans (if_neg hc3)).trans (if_neg hc9)).trans (if_pos hc15)
        subst ez1
        exact J3
      · refine go (T' := s₁) (f' := (mkF m 22 #[.val (.int p0), .unset, .unset, .unset, .unset, .unset, .unset] [])) (by intro t k; exact XS.icmpYes X0.here hx rfl (pc0 := 15) (pc' := 22) rfl (hb hby at_15) rfl (feq hc15).2 (by decide) (by decide) k) ?_
        refine go (T' := s₁) (f' := (mkF m 23 #[.val (.int p0), .unset, .unset, .unset, .unset, .unset, .unset] [(.int (0 : Int32))])) (by intro t k; exact XS.iconst X0.here hx rfl (hb hby at_22) k) ?_
        have ez1 : z1 = (0 : Int32) := (((hz1).trans (if_neg hc3)).trans (if_neg hc9)).trans (if_neg hc15)
        subst ez1
        exact J3
theorem own_ne0 {args : Array Value} {s : State} {t : Term} {x : Int32} (e : t.eval args s none [] s = some (.int x)) (h : (Jvm.Cond.not (Jvm.Cond.eq t (Jvm.Term.int (0 : Int32)))).value args s none s [] = some true) : ¬ (x = (0 : Int32)) := fun q => by
  have := not_v h
  simp [Cond.value, Term.eval, e, q] at this
set_option maxRecDepth 65536 in
set_option maxHeartbeats 40000000 in
theorem comes_1 {Post : Tables → Env → Array Value → State → Outcome → State → Prop} (hpost : ∀ tb e args s v u, (limb_1_1.after args s (.returned v) u = true ∧ limb_1_2.after args s (.returned v) u = true ∧ True) → FrameEnd s (.returned v) u (Jvm.fieldLocs frame_1_writes args s ++ Jvm.arrayLocs frame_1_arrays args s ++ Jvm.staticLocs frame_1_statics s) 24 128 → Post tb e args s (.returned v) u) :
    ArmFor flags0 classFile x code maxLocals ret World_1 tables_1 room_1 Calls_1 rest_1 Pre_1 Post := by
  intro l hfl _ _ p e ha hc hk s m args below hf hA hF happ hP
  obtain ⟨hcalls, hrest, hpre⟩ := hP
  obtain ⟨-, -, -, hnamed, -, -, -, hat⟩ := (Spec.applies_iff hf).mp happ
  obtain ⟨hg, hn⟩ := and_e (Cond.before_iff.mp (show (Jvm.Cond.and given_1 narrow_1).before args s = true from hpre))
  obtain ⟨g1, g2⟩ := and_e hg
  obtain ⟨w0, rfl⟩ : ∃ w0 : Value, args = #[w0] := by
    have hs : args.size = 1 := by simpa [Cond.value, given_1] using g1
    obtain ⟨L⟩ := args
    match L, hs with
    | [w0], _ => exact ⟨w0, rfl⟩
  have hw := fun d (hd : d ∈ tables_1) => atoms_spec (ws := Jvm.Cond.code x code maxLocals ret :: tables_1) hat d (List.mem_cons_of_mem _ hd)
  have hfit : Fit s := fun {y c} hc i hi => by
    obtain ⟨ha, rfl⟩ := Array.getElem?_eq_some_iff.mp hc
    have q := List.all_eq_true.mp ((Array.all_eq_true_iff_forall_mem.mp hF) _ (Array.getElem_mem ha)) i (List.mem_range.mpr hi)
    simpa [Array.getElem?_eq_getElem hi] using q
  obtain ⟨hsets, hown0⟩ := atoms_of _ (rest_1_c_eq ▸ (show rest_1_c.before _ s = true from hrest))
  have hr0 := Cond.before_iff.mp hown0
  obtain ⟨i0, ei0⟩ := is_v g2
  obtain rfl : w0 = (.int i0) := Option.some.inj ei0
  obtain ⟨cs, ecs⟩ := is_v (Cond.before_iff.mp (hsets _ (List.mem_of_getElem? (i := 1) rfl)))
  have S_cs := Sta.start ecs (Or.inl (hsets _ (List.mem_of_getElem? (i := 0) rfl)))
  have hcs : ¬ (cs = (0 : Int32)) := own_ne0 ecs (Cond.before_iff.mp (hsets _ (List.mem_of_getElem? (i := 2) rfl)))
  obtain ⟨wf, ewf, hwf⟩ := isR_v (Cond.before_iff.mp (hsets _ (List.mem_of_getElem? (i := 8) rfl)))
  have S_sf := Sta.start ewf (Or.inl (hsets _ (List.mem_of_getElem? (i := 7) rfl)))
  have S_ad := Sta.start (eqi_v (Cond.before_iff.mp (hsets _ (List.mem_of_getElem? (i := 12) rfl)))) (Or.inl (hsets _ (List.mem_of_getElem? (i := 11) rfl)))
  have S_hi := Sta.start (eqi_v (Cond.before_iff.mp (hsets _ (List.mem_of_getElem? (i := 15) rfl)))) (Or.inl (hsets _ (List.mem_of_getElem? (i := 14) rfl)))
  have S_lo := Sta.start (eqi_v (Cond.before_iff.mp (hsets _ (List.mem_of_getElem? (i := 18) rfl)))) (Or.inl (hsets _ (List.mem_of_getElem? (i := 17) rfl)))
  obtain ⟨n, o, h1, h2, h3, _, L, rfl, ⟨rfl, N⟩, hq⟩ := rm0 l s _ hw tables_1 i0 cs wf s.heap s.heap.size (Nat.le_refl _) (Old.start s) S_cs hcs S_sf hwf S_ad S_hi S_lo p e ha hc hk s m _ below hf ((Spec.applies_iff_loose hf).mp happ).1 ⟨rfl, State.Warmed39.refl s, rfl⟩ trivial
  refine ⟨n, _, h1, h2, h3, hpost _ _ _ _ _ _ ⟨Cond.after_iff.mpr rfl, Cond.after_iff.mpr (eq_i res_at (Term.int_eval (1)) rfl), trivial⟩ ⟨hq.1, hq.2.1, (hq.2.2.sift fun y hy => Or.inr (N y hy)).mono (by decide) (by decide)⟩⟩
theorem main_1_1 : Claimed_1_1 := comes_1 fun _ _ _ _ _ _ h hF => ⟨h.1, hF⟩
theorem main_1_2 : Claimed_1_2 := comes_1 fun _ _ _ _ _ _ h hF => ⟨h.2.1, hF⟩
end Jvm.Pilot.@@N@@
namespace Jvm.Pilot.@@N@@
open Jvm Jvm.ClassFile Sem Op Lib Jvm.Free Jvm.Stand Jvm.Pilot.@@N@@.Jvm.D
/-! MADE BY PROGRAM (witnessworld.py) out of the Statement's table words and the real class files: 21 classes; the members and pool entries that the words name. The judged class is class 1, her method 1. -/
namespace start1
open Jvm.ClassFile
def u (s : String) : CpInfo := .utf8 (stringToUtf16 s)
/-- a pool by its gaps: so many unusable entries, then the entry; so many at the end -/
def gap : Nat → List CpInfo → List CpInfo
  | 0, r => r
  | n + 1, r => .unusable :: gap n r
def poolList (es : List (Nat × CpInfo)) (last : Nat) : List CpInfo := es.foldr (fun e r => gap e.1 (e.2 :: r)) (gap last [])
def pool (es : List (Nat × CpInfo)) (last : Nat) : Array CpInfo := ⟨poolList es last⟩
def fileOf (pool : Array CpInfo) (this : Nat) (attrs : Array Attribute := #[]) (ms : Array MethodInfo := #[]) (fl : Nat := 33) (sup : Nat := 0) (ifs : Array Nat := #[]) (fds : Array FieldInfo := #[]) : ClassFile where
  minorVersion := 0
  majorVersion := 65
  constantPool := pool
  accessFlags := fl
  thisClass := this
  superClass := sup
  interfaces := ifs
  fields := fds
  methods := ms
  attributes := attrs
def plain (name : String) (sup : Option ClassId) : Class where
  name := name
  kind := .ordinary
  loader := none
  accessFlags := 33
  super := sup
  interfaces := #[]
  cf := none
  fields := #[]
  methods := #[]
  instanceTypes := #[]
  staticTypes := #[]
  resolved := #[]
  callSites := []
  init := .initialized
  statics := none
  mirror := none

def pool0 : Array CpInfo := pool [(5, u "<init>"), (0, u "()V"), (1, .class_ 10), (1, u "java/lang/Object")] 113

def k0c0 : Code := { maxStack := 0, maxLocals := 1, code := object_method_1_code, exceptionTable := #[], attributes := #[] }
def k0m0 : Method := { name := "<init>", desc := "()V", sig := { parameters := [], returnType := none }, accessFlags := 1, code := some k0c0 }
/-- java/lang/Object -/
def k0 : Class := { plain "java/lang/Object" none with
  accessFlags := 33
  interfaces := #[]
  cf := some (fileOf pool0 8 #[] #[{ accessFlags := 1, nameIndex := 5, descriptorIndex := 6, attributes := #[] }] 33 0 #[] #[])
  fields := #[]
  methods := #[k0m0]
  instanceTypes := #[]
  staticTypes := #[]
  resolved := Array.replicate 124 none
  statics := none }

def pool1 : Array CpInfo := pool [(2, .class_ 4), (1, u "java/lang/Object"), (0, u "<init>"), (0, u "()V"), (0, .methodref 8 9), (0, .class_ 10), (0, .nameAndType 11 12), (0, u "com/example/settle/settle/io/LineCursor"), (0, u "isBlank"), (0, u "(I)Z"), (0, .integer 65535), (0, .class_ 15), (0, u "java/lang/String"), (0, .methodref 14 17), (0, .nameAndType 5 18), (0, u "([C)V"), (0, .methodref 8 20), (0, .nameAndType 5 21), (0, u "(Ljava/lang/String;I)V"), (0, .methodref 8 23), (0, .nameAndType 24 25), (0, u "column"), (0, u "()I"), (0, .class_ 27), (0, u "com/example/settle/settle/io/LineCursorIsBlankPinLaw"), (2, u "law")] 5

def k1m0 : Method := { name := "<init>", desc := "()V", sig := { parameters := [], returnType := none }, accessFlags := 1, code := none }
def k1c1 : Code := { maxStack := 5, maxLocals := 7, code := code, exceptionTable := #[], attributes := #[] }
def k1m1 : Method := { name := "law", desc := "(I)Z", sig := { parameters := [.int], returnType := some .boolean }, accessFlags := 9, code := some k1c1 }
/-- com/example/settle/settle/io/LineCursorIsBlankPinLaw -/
def k1 : Class := { plain "com/example/settle/settle/io/LineCursorIsBlankPinLaw" (some 0) with
  accessFlags := 49
  interfaces := #[]
  cf := some (fileOf pool1 26 #[] #[{ accessFlags := 1, nameIndex := 5, descriptorIndex := 6, attributes := #[] }, { accessFlags := 9, nameIndex := 30, descriptorIndex := 12, attributes := #[] }] 49 2 #[] #[])
  fields := #[]
  methods := #[k1m0, k1m1]
  instanceTypes := #[]
  staticTypes := #[]
  resolved := Array.replicate 36 none
  statics := none }

def pool2 : Array CpInfo := pool [(1, .methodref 2 3), (0, .class_ 4), (0, .nameAndType 5 6), (0, u "com/example/settle/settle/io/LineCursor"), (0, u "<init>"), (0, u "(Ljava/lang/String;IZ)V"), (0, .methodref 8 9), (0, .class_ 10), (0, .nameAndType 5 11), (0, u "java/lang/Object"), (0, u "()V"), (0, .fieldref 2 13), (0, .nameAndType 14 15), (0, u "text"), (0, u "Ljava/lang/String;"), (0, .fieldref 2 17), (0, .nameAndType 18 19), (0, u "line"), (0, u "I"), (0, .fieldref 2 21), (0, .nameAndType 22 23), (0, u "columns"), (0, u "Z"), (4, .fieldref 2 29), (0, .nameAndType 30 19), (0, u "position"), (0, .methodref 32 33), (0, .class_ 34), (0, .nameAndType 35 36), (0, u "java/lang/String"), (0, u "length"), (0, u "()I"), (0, .methodref 2 38), (0, .nameAndType 39 11), (0, u "skipBlanks"), (21, .methodref 32 62), (0, .nameAndType 63 64), (0, u "charAt"), (0, u "(I)C"), (17, u "(I)Z"), (9, u "(II)I"), (19, .methodref 2 113), (0, .nameAndType 114 36), (0, u "currentColumn"), (8, .methodref 32 124), (0, .nameAndType 125 92), (0, u "codePointCount"), (0, .methodref 2 127), (0, .nameAndType 128 82), (0, u "isBlank"), (0, u "(Ljava/lang/String;I)V"), (12, u "column")] 21

def k2c0 : Code := { maxStack := 4, maxLocals := 3, code := prog_32_method_1_code, exceptionTable := #[], attributes := #[] }
def k2m0 : Method := { name := "<init>", desc := "(Ljava/lang/String;I)V", sig := { parameters := [(.object "java/lang/String"), .int], returnType := none }, accessFlags := 0, code := some k2c0 }
def k2c1 : Code := { maxStack := 2, maxLocals := 4, code := prog_32_method_2_code, exceptionTable := #[], attributes := #[] }
def k2m1 : Method := { name := "<init>", desc := "(Ljava/lang/String;IZ)V", sig := { parameters := [(.object "java/lang/String"), .int, .boolean], returnType := none }, accessFlags := 0, code := some k2c1 }
def k2c2 : Code := { maxStack := 1, maxLocals := 1, code := prog_32_method_15_code, exceptionTable := #[], attributes := #[] }
def k2m2 : Method := { name := "column", desc := "()I", sig := { parameters := [], returnType := some .int }, accessFlags := 0, code := some k2c2 }
def k2c3 : Code := { maxStack := 3, maxLocals := 1, code := prog_32_method_17_code, exceptionTable := #[], attributes := #[] }
def k2m3 : Method := { name := "currentColumn", desc := "()I", sig := { parameters := [], returnType := some .int }, accessFlags := 2, code := some k2c3 }
def k2c4 : Code := { maxStack := 3, maxLocals := 1, code := prog_32_method_18_code, exceptionTable := #[], attributes := #[] }
def k2m4 : Method := { name := "skipBlanks", desc := "()V", sig := { parameters := [], returnType := none }, accessFlags := 2, code := some k2c4 }
def k2c5 : Code := { maxStack := 2, maxLocals := 1, code := prog_32_method_19_code, exceptionTable := #[], attributes := #[] }
def k2m5 : Method := { name := "isBlank", desc := "(I)Z", sig := { parameters := [.int], returnType := some .boolean }, accessFlags := 8, code := some k2c5 }
/-- com/example/settle/settle/io/LineCursor -/
def k2 : Class := { plain "com/example/settle/settle/io/LineCursor" (some 0) with
  accessFlags := 32
  interfaces := #[]
  cf := some (fileOf pool2 2 #[] #[{ accessFlags := 0, nameIndex := 5, descriptorIndex := 129, attributes := #[] }, { accessFlags := 0, nameIndex := 5, descriptorIndex := 6, attributes := #[] }, { accessFlags := 0, nameIndex := 142, descriptorIndex := 36, attributes := #[] }, { accessFlags := 2, nameIndex := 114, descriptorIndex := 36, attributes := #[] }, { accessFlags := 2, nameIndex := 39, descriptorIndex := 11, attributes := #[] }, { accessFlags := 8, nameIndex := 128, descriptorIndex := 82, attributes := #[] }] 32 8 #[] #[{ accessFlags := 18, nameIndex := 14, descriptorIndex := 15, attributes := #[] }, { accessFlags := 18, nameIndex := 18, descriptorIndex := 19, attributes := #[] }, { accessFlags := 18, nameIndex := 22, descriptorIndex := 23, attributes := #[] }, { accessFlags := 2, nameIndex := 30, descriptorIndex := 19, attributes := #[] }])
  fields := #[{ name := "text", type := (.object "java/lang/String"), accessFlags := 18, slot := 0, constantValue := 0 }, { name := "line", type := .int, accessFlags := 18, slot := 1, constantValue := 0 }, { name := "columns", type := .boolean, accessFlags := 18, slot := 2, constantValue := 0 }, { name := "position", type := .int, accessFlags := 2, slot := 3, constantValue := 0 }]
  methods := #[k2m0, k2m1, k2m2, k2m3, k2m4, k2m5]
  instanceTypes := #[(.object "java/lang/String"), .int, .boolean, .int]
  staticTypes := #[]
  resolved := Array.replicate 164 none
  statics := none }

def pool3 : Array CpInfo := pool [(1, .class_ 2), (0, u "java/io/Serializable"), (0, .class_ 4), (0, u "java/lang/Object")] 2

/-- java/io/Serializable -/
def k3 : Class := { plain "java/io/Serializable" (some 0) with
  accessFlags := 1537
  interfaces := #[]
  cf := some (fileOf pool3 1 #[] #[] 1537 3 #[] #[])
  fields := #[]
  methods := #[]
  instanceTypes := #[]
  staticTypes := #[]
  resolved := Array.replicate 7 none
  statics := none }

def pool4 : Array CpInfo := pool [(1, .class_ 2), (0, u "java/lang/Comparable"), (0, .class_ 4), (0, u "java/lang/Object")] 7

/-- java/lang/Comparable -/
def k4 : Class := { plain "java/lang/Comparable" (some 0) with
  accessFlags := 1537
  interfaces := #[]
  cf := some (fileOf pool4 1 #[] #[] 1537 3 #[] #[])
  fields := #[]
  methods := #[]
  instanceTypes := #[]
  staticTypes := #[]
  resolved := Array.replicate 12 none
  statics := none }

def pool5 : Array CpInfo := pool [(2, .class_ 4), (1, u "java/lang/CharSequence"), (42, .class_ 48), (0, u "java/lang/CharSequence$1CodePointIterator"), (10, .class_ 60), (0, u "java/lang/CharSequence$1CharIterator"), (5, .class_ 67), (0, u "java/lang/Object")] 63

/-- java/lang/CharSequence -/
def k5 : Class := { plain "java/lang/CharSequence" (some 0) with
  accessFlags := 1537
  interfaces := #[]
  cf := some (fileOf pool5 2 #[.nestMembers #[47, 59]] #[] 1537 66 #[] #[])
  fields := #[]
  methods := #[]
  instanceTypes := #[]
  staticTypes := #[]
  resolved := Array.replicate 131 none
  statics := none }

def pool6 : Array CpInfo := pool [(1, .class_ 2), (0, u "java/lang/constant/Constable"), (0, .class_ 4), (0, u "java/lang/Object")] 6

/-- java/lang/constant/Constable -/
def k6 : Class := { plain "java/lang/constant/Constable" (some 0) with
  accessFlags := 1537
  interfaces := #[]
  cf := some (fileOf pool6 1 #[] #[] 1537 3 #[] #[])
  fields := #[]
  methods := #[]
  instanceTypes := #[]
  staticTypes := #[]
  resolved := Array.replicate 11 none
  statics := none }

def pool7 : Array CpInfo := pool [(1, .class_ 2), (0, u "java/lang/constant/ConstantDesc"), (0, .class_ 4), (0, u "java/lang/Object")] 32

/-- java/lang/constant/ConstantDesc -/
def k7 : Class := { plain "java/lang/constant/ConstantDesc" (some 0) with
  accessFlags := 1537
  interfaces := #[]
  cf := some (fileOf pool7 1 #[] #[] 1537 3 #[] #[])
  fields := #[]
  methods := #[]
  instanceTypes := #[]
  staticTypes := #[]
  resolved := Array.replicate 37 none
  statics := none }

def pool8 : Array CpInfo := pool [(1, .methodref 2 3), (0, .class_ 4), (0, .nameAndType 5 6), (0, u "java/lang/Object"), (0, u "<init>"), (0, u "()V"), (2, .fieldref 10 11), (0, .class_ 12), (0, .nameAndType 13 14), (0, u "java/lang/String"), (0, u "value"), (0, u "[B"), (0, .fieldref 10 16), (0, .nameAndType 17 18), (0, u "coder"), (0, u "B"), (2, u "hash"), (0, u "I"), (2, u "hashIsZero"), (0, u "Z"), (0, .methodref 10 28), (0, .nameAndType 5 29), (0, u "([CIILjava/lang/Void;)V"), (7, u "(III)I"), (0, .fieldref 10 39), (0, .nameAndType 40 26), (0, u "COMPACT_STRINGS"), (1, .class_ 44), (1, u "java/lang/StringUTF16"), (0, u "compress"), (1, .methodref 42 48), (0, .nameAndType 49 50), (0, u "coderFromArrayLen"), (0, u "([BI)B"), (28, .class_ 81), (1, u "java/util/Objects"), (15, u "([BII)I"), (9, .class_ 109), (1, u "java/lang/StringLatin1"), (32, u "()Z"), (34, .methodref 42 178), (0, .nameAndType 45 179), (0, u "([CII)[B"), (154, u "()I"), (0, .methodref 10 336), (0, .nameAndType 17 337), (0, u "()B"), (25, u "([BI)C"), (27, u "(II)V"), (35, u "(I)C"), (64, .methodref 10 493), (0, .nameAndType 494 142), (0, u "isLatin1"), (0, .methodref 107 496), (0, .nameAndType 497 363), (0, u "charAt"), (0, .methodref 42 496), (2, u "checkIndex"), (3, .methodref 10 506), (0, .nameAndType 507 334), (0, u "length"), (3, .methodref 79 512), (0, .nameAndType 513 37), (0, u "checkFromToIndex"), (0, .methodref 42 515), (0, .nameAndType 516 97), (0, u "codePointCount"), (58, .class_ 576), (0, u "java/lang/CharSequence"), (22, u "CASE_INSENSITIVE_ORDER"), (0, u "Ljava/util/Comparator;"), (35, u "(II)I"), (373, u "([C)V"), (42, .fieldref 1054 1055), (0, .class_ 1056), (0, .nameAndType 1057 1058), (0, u "jdk/internal/util/Preconditions"), (0, u "SIOOBE_FORMATTER"), (0, u "Ljava/util/function/BiFunction;"), (0, .methodref 1054 1060), (0, .nameAndType 501 1061), (0, u "(IILjava/util/function/BiFunction;)I"), (39, u "serialPersistentFields"), (0, u "[Ljava/io/ObjectStreamField;"), (0, .class_ 1104), (0, u "java/lang/String$CaseInsensitiveComparator"), (1, .class_ 1107), (0, u "java/io/Serializable"), (0, .class_ 1109), (0, u "java/lang/Comparable"), (0, .class_ 1111), (0, u "java/lang/constant/Constable"), (0, .class_ 1113), (0, u "java/lang/constant/ConstantDesc"), (2, u "serialVersionUID"), (0, u "J"), (3, u "REPL"), (0, u "C"), (2, u "LATIN1"), (1, u "UTF16")] 323

def k8m0 : Method := { name := "<init>", desc := "()V", sig := { parameters := [], returnType := none }, accessFlags := 1, code := none }
def k8c1 : Code := { maxStack := 5, maxLocals := 2, code := jdk_42_method_3_code, exceptionTable := #[], attributes := #[] }
def k8m1 : Method := { name := "<init>", desc := "([C)V", sig := { parameters := [(.array .char)], returnType := none }, accessFlags := 1, code := some k8c1 }
def k8c2 : Code := { maxStack := 2, maxLocals := 1, code := jdk_42_method_54_code, exceptionTable := #[], attributes := #[] }
def k8m2 : Method := { name := "length", desc := "()I", sig := { parameters := [], returnType := some .int }, accessFlags := 1, code := some k8c2 }
def k8c3 : Code := { maxStack := 2, maxLocals := 2, code := jdk_42_method_56_code, exceptionTable := #[], attributes := #[] }
def k8m3 : Method := { name := "charAt", desc := "(I)C", sig := { parameters := [.int], returnType := some .char }, accessFlags := 1, code := some k8c3 }
def k8c4 : Code := { maxStack := 3, maxLocals := 3, code := jdk_42_method_59_code, exceptionTable := #[], attributes := #[] }
def k8m4 : Method := { name := "codePointCount", desc := "(II)I", sig := { parameters := [.int, .int], returnType := some .int }, accessFlags := 1, code := some k8c4 }
def k8c5 : Code := { maxStack := 4, maxLocals := 6, code := jdk_42_method_149_code, exceptionTable := #[], attributes := #[] }
def k8m5 : Method := { name := "<init>", desc := "([CIILjava/lang/Void;)V", sig := { parameters := [(.array .char), .int, .int, (.object "java/lang/Void")], returnType := none }, accessFlags := 2, code := some k8c5 }
def k8c6 : Code := { maxStack := 1, maxLocals := 1, code := jdk_42_method_152_code, exceptionTable := #[], attributes := #[] }
def k8m6 : Method := { name := "coder", desc := "()B", sig := { parameters := [], returnType := some .byte }, accessFlags := 0, code := some k8c6 }
def k8c7 : Code := { maxStack := 1, maxLocals := 1, code := jdk_42_method_154_code, exceptionTable := #[], attributes := #[] }
def k8m7 : Method := { name := "isLatin1", desc := "()Z", sig := { parameters := [], returnType := some .boolean }, accessFlags := 0, code := some k8c7 }
def k8c8 : Code := { maxStack := 3, maxLocals := 2, code := jdk_42_method_155_code, exceptionTable := #[], attributes := #[] }
def k8m8 : Method := { name := "checkIndex", desc := "(II)V", sig := { parameters := [.int, .int], returnType := none }, accessFlags := 8, code := some k8c8 }
/-- java/lang/String -/
def k8 : Class := { plain "java/lang/String" (some 0) with
  accessFlags := 49
  interfaces := #[3, 4, 5, 6, 7]
  cf := some (fileOf pool8 10 #[.nestMembers #[1103]] #[{ accessFlags := 1, nameIndex := 5, descriptorIndex := 6, attributes := #[] }, { accessFlags := 1, nameIndex := 5, descriptorIndex := 1010, attributes := #[] }, { accessFlags := 1, nameIndex := 507, descriptorIndex := 334, attributes := #[] }, { accessFlags := 1, nameIndex := 497, descriptorIndex := 427, attributes := #[] }, { accessFlags := 1, nameIndex := 516, descriptorIndex := 636, attributes := #[] }, { accessFlags := 2, nameIndex := 5, descriptorIndex := 29, attributes := #[] }, { accessFlags := 0, nameIndex := 17, descriptorIndex := 337, attributes := #[] }, { accessFlags := 0, nameIndex := 494, descriptorIndex := 142, attributes := #[] }, { accessFlags := 8, nameIndex := 501, descriptorIndex := 391, attributes := #[] }] 49 2 #[1106, 1108, 575, 1110, 1112] #[{ accessFlags := 18, nameIndex := 13, descriptorIndex := 14, attributes := #[] }, { accessFlags := 18, nameIndex := 17, descriptorIndex := 18, attributes := #[] }, { accessFlags := 2, nameIndex := 21, descriptorIndex := 22, attributes := #[] }, { accessFlags := 2, nameIndex := 25, descriptorIndex := 26, attributes := #[] }, { accessFlags := 26, nameIndex := 1116, descriptorIndex := 1117, attributes := #[] }, { accessFlags := 24, nameIndex := 40, descriptorIndex := 26, attributes := #[] }, { accessFlags := 26, nameIndex := 1101, descriptorIndex := 1102, attributes := #[] }, { accessFlags := 26, nameIndex := 1121, descriptorIndex := 1122, attributes := #[] }, { accessFlags := 25, nameIndex := 599, descriptorIndex := 600, attributes := #[] }, { accessFlags := 24, nameIndex := 1125, descriptorIndex := 18, attributes := #[] }, { accessFlags := 24, nameIndex := 1127, descriptorIndex := 18, attributes := #[] }])
  fields := #[{ name := "value", type := (.array .byte), accessFlags := 18, slot := 0, constantValue := 0 }, { name := "coder", type := .byte, accessFlags := 18, slot := 1, constantValue := 0 }, { name := "hash", type := .int, accessFlags := 2, slot := 2, constantValue := 0 }, { name := "hashIsZero", type := .boolean, accessFlags := 2, slot := 3, constantValue := 0 }, { name := "serialVersionUID", type := .long, accessFlags := 26, slot := 0, constantValue := 0 }, { name := "COMPACT_STRINGS", type := .boolean, accessFlags := 24, slot := 1, constantValue := 0 }, { name := "serialPersistentFields", type := (.array (.object "java/io/ObjectStreamField")), accessFlags := 26, slot := 2, constantValue := 0 }, { name := "REPL", type := .char, accessFlags := 26, slot := 3, constantValue := 0 }, { name := "CASE_INSENSITIVE_ORDER", type := (.object "java/util/Comparator"), accessFlags := 25, slot := 4, constantValue := 0 }, { name := "LATIN1", type := .byte, accessFlags := 24, slot := 5, constantValue := 0 }, { name := "UTF16", type := .byte, accessFlags := 24, slot := 6, constantValue := 0 }]
  methods := #[k8m0, k8m1, k8m2, k8m3, k8m4, k8m5, k8m6, k8m7, k8m8]
  instanceTypes := #[(.array .byte), .byte, .int, .boolean]
  staticTypes := #[.long, .boolean, (.array (.object "java/io/ObjectStreamField")), .char, (.object "java/util/Comparator"), .byte, .byte]
  resolved := Array.replicate 1451 none
  statics := some 0 }

def pool9 : Array CpInfo := pool [(3, .class_ 4), (0, u "java/lang/String"), (1, .class_ 8), (1, u "java/lang/Object"), (0, u "<init>"), (0, u "()V"), (0, .methodref 12 13), (0, .class_ 14), (0, .nameAndType 15 16), (0, u "java/lang/StringUTF16"), (0, u "newBytesLength"), (0, u "(I)I"), (3, .integer 1073741823), (23, .fieldref 12 45), (0, .nameAndType 46 47), (0, u "$assertionsDisabled"), (0, u "Z"), (0, .methodref 12 49), (0, .nameAndType 50 51), (0, u "length"), (0, u "([B)I"), (7, .fieldref 12 60), (0, .nameAndType 61 62), (0, u "HI_BYTE_SHIFT"), (0, u "I"), (0, .fieldref 12 64), (0, .nameAndType 65 62), (0, u "LO_BYTE_SHIFT"), (1, .methodref 12 68), (0, .nameAndType 69 70), (0, u "checkIndex"), (0, u "(I[B)V"), (0, .methodref 12 72), (0, .nameAndType 73 74), (0, u "getChar"), (0, u "([BI)C"), (16, u "([BIIZ)I"), (8, .methodref 12 101), (0, .nameAndType 102 91), (0, u "codePointCount"), (4, .methodref 12 108), (0, .nameAndType 109 110), (0, u "newBytesFor"), (0, u "(I)[B"), (0, .methodref 12 112), (0, .nameAndType 113 114), (0, u "putChar"), (0, u "([BII)V"), (0, .methodref 12 116), (0, .nameAndType 117 118), (0, u "compress"), (0, u "([CI[BII)I"), (0, .methodref 12 120), (0, .nameAndType 121 122), (0, u "toBytes"), (0, u "([CII)[B"), (127, u "([BII)I"), (10, u "coderFromArrayLen"), (0, u "([BI)B"), (106, .class_ 371), (1, u "java/lang/StringUTF16$LinesSpliterator"), (20, u "charAt"), (21, .methodref 3 415), (0, .nameAndType 69 416), (0, u "(II)V"), (13, u "MAX_LENGTH"), (196, .class_ 628), (0, u "java/lang/StringUTF16$CodePointsSpliterator"), (0, .class_ 630), (0, u "java/lang/StringUTF16$CharsSpliterator")] 4

def k9m0 : Method := { name := "<init>", desc := "()V", sig := { parameters := [], returnType := none }, accessFlags := 0, code := none }
def k9c1 : Code := { maxStack := 1, maxLocals := 1, code := jdk_52_method_2_code, exceptionTable := #[], attributes := #[] }
def k9m1 : Method := { name := "newBytesFor", desc := "(I)[B", sig := { parameters := [.int], returnType := some (.array .byte) }, accessFlags := 9, code := some k9c1 }
def k9c2 : Code := { maxStack := 4, maxLocals := 1, code := jdk_52_method_3_code, exceptionTable := #[], attributes := #[] }
def k9m2 : Method := { name := "newBytesLength", desc := "(I)I", sig := { parameters := [.int], returnType := some .int }, accessFlags := 9, code := some k9c2 }
def k9c3 : Code := { maxStack := 4, maxLocals := 3, code := jdk_52_method_4_code, exceptionTable := #[], attributes := #[] }
def k9m3 : Method := { name := "putChar", desc := "([BII)V", sig := { parameters := [(.array .byte), .int, .int], returnType := none }, accessFlags := 8, code := some k9c3 }
def k9c4 : Code := { maxStack := 3, maxLocals := 2, code := jdk_52_method_5_code, exceptionTable := #[], attributes := #[] }
def k9m4 : Method := { name := "getChar", desc := "([BI)C", sig := { parameters := [(.array .byte), .int], returnType := some .char }, accessFlags := 8, code := some k9c4 }
def k9c5 : Code := { maxStack := 2, maxLocals := 1, code := jdk_52_method_6_code, exceptionTable := #[], attributes := #[] }
def k9m5 : Method := { name := "length", desc := "([B)I", sig := { parameters := [(.array .byte)], returnType := some .int }, accessFlags := 9, code := some k9c5 }
def k9c6 : Code := { maxStack := 3, maxLocals := 6, code := jdk_52_method_11_code, exceptionTable := #[], attributes := #[] }
def k9m6 : Method := { name := "codePointCount", desc := "([BIIZ)I", sig := { parameters := [(.array .byte), .int, .int, .boolean], returnType := some .int }, accessFlags := 10, code := some k9c6 }
def k9c7 : Code := { maxStack := 4, maxLocals := 3, code := jdk_52_method_12_code, exceptionTable := #[], attributes := #[] }
def k9m7 : Method := { name := "codePointCount", desc := "([BII)I", sig := { parameters := [(.array .byte), .int, .int], returnType := some .int }, accessFlags := 9, code := some k9c7 }
def k9c8 : Code := { maxStack := 4, maxLocals := 5, code := jdk_52_method_14_code, exceptionTable := #[], attributes := #[] }
def k9m8 : Method := { name := "toBytes", desc := "([CII)[B", sig := { parameters := [(.array .char), .int, .int], returnType := some (.array .byte) }, accessFlags := 9, code := some k9c8 }
def k9c9 : Code := { maxStack := 2, maxLocals := 2, code := jdk_52_method_15_code, exceptionTable := #[], attributes := #[] }
def k9m9 : Method := { name := "coderFromArrayLen", desc := "([BI)B", sig := { parameters := [(.array .byte), .int], returnType := some .byte }, accessFlags := 8, code := some k9c9 }
def k9c10 : Code := { maxStack := 5, maxLocals := 6, code := jdk_52_method_16_code, exceptionTable := #[], attributes := #[] }
def k9m10 : Method := { name := "compress", desc := "([CII)[B", sig := { parameters := [(.array .char), .int, .int], returnType := some (.array .byte) }, accessFlags := 9, code := some k9c10 }
def k9c11 : Code := { maxStack := 3, maxLocals := 7, code := jdk_52_method_21_code, exceptionTable := #[], attributes := #[] }
def k9m11 : Method := { name := "compress", desc := "([CI[BII)I", sig := { parameters := [(.array .char), .int, (.array .byte), .int, .int], returnType := some .int }, accessFlags := 9, code := some k9c11 }
def k9c12 : Code := { maxStack := 2, maxLocals := 2, code := jdk_52_method_83_code, exceptionTable := #[], attributes := #[] }
def k9m12 : Method := { name := "charAt", desc := "([BI)C", sig := { parameters := [(.array .byte), .int], returnType := some .char }, accessFlags := 9, code := some k9c12 }
def k9c13 : Code := { maxStack := 2, maxLocals := 2, code := jdk_52_method_91_code, exceptionTable := #[], attributes := #[] }
def k9m13 : Method := { name := "checkIndex", desc := "(I[B)V", sig := { parameters := [.int, (.array .byte)], returnType := none }, accessFlags := 9, code := some k9c13 }
/-- java/lang/StringUTF16 -/
def k9 : Class := { plain "java/lang/StringUTF16" (some 0) with
  accessFlags := 48
  interfaces := #[]
  cf := some (fileOf pool9 12 #[.nestMembers #[627, 629, 369]] #[{ accessFlags := 0, nameIndex := 9, descriptorIndex := 10, attributes := #[] }, { accessFlags := 9, nameIndex := 109, descriptorIndex := 110, attributes := #[] }, { accessFlags := 9, nameIndex := 15, descriptorIndex := 16, attributes := #[] }, { accessFlags := 8, nameIndex := 113, descriptorIndex := 114, attributes := #[] }, { accessFlags := 8, nameIndex := 73, descriptorIndex := 74, attributes := #[] }, { accessFlags := 9, nameIndex := 50, descriptorIndex := 51, attributes := #[] }, { accessFlags := 10, nameIndex := 102, descriptorIndex := 91, attributes := #[] }, { accessFlags := 9, nameIndex := 102, descriptorIndex := 250, attributes := #[] }, { accessFlags := 9, nameIndex := 121, descriptorIndex := 122, attributes := #[] }, { accessFlags := 8, nameIndex := 261, descriptorIndex := 262, attributes := #[] }, { accessFlags := 9, nameIndex := 117, descriptorIndex := 122, attributes := #[] }, { accessFlags := 9, nameIndex := 117, descriptorIndex := 118, attributes := #[] }, { accessFlags := 9, nameIndex := 392, descriptorIndex := 74, attributes := #[] }, { accessFlags := 9, nameIndex := 69, descriptorIndex := 70, attributes := #[] }] 48 6 #[] #[{ accessFlags := 26, nameIndex := 61, descriptorIndex := 62, attributes := #[] }, { accessFlags := 26, nameIndex := 65, descriptorIndex := 62, attributes := #[] }, { accessFlags := 24, nameIndex := 430, descriptorIndex := 62, attributes := #[] }, { accessFlags := 4120, nameIndex := 46, descriptorIndex := 47, attributes := #[] }])
  fields := #[{ name := "HI_BYTE_SHIFT", type := .int, accessFlags := 26, slot := 0, constantValue := 0 }, { name := "LO_BYTE_SHIFT", type := .int, accessFlags := 26, slot := 1, constantValue := 0 }, { name := "MAX_LENGTH", type := .int, accessFlags := 24, slot := 2, constantValue := 0 }, { name := "$assertionsDisabled", type := .boolean, accessFlags := 4120, slot := 3, constantValue := 0 }]
  methods := #[k9m0, k9m1, k9m2, k9m3, k9m4, k9m5, k9m6, k9m7, k9m8, k9m9, k9m10, k9m11, k9m12, k9m13]
  instanceTypes := #[]
  staticTypes := #[.int, .int, .int, .boolean]
  resolved := Array.replicate 635 none
  statics := some 1 }

def pool10 : Array CpInfo := pool [(1, .class_ 2), (0, u "java/lang/String"), (1, .class_ 6), (1, u "java/lang/Object"), (0, u "<init>"), (0, u "()V"), (0, .methodref 1 10), (0, .nameAndType 11 12), (0, u "checkIndex"), (0, u "(II)V"), (1, .class_ 16), (1, u "java/lang/StringLatin1"), (36, u "([BI)C"), (67, u "$assertionsDisabled"), (0, u "Z"), (98, .class_ 223), (1, u "java/lang/StringLatin1$LinesSpliterator"), (28, u "charAt"), (137, .class_ 391), (0, u "java/lang/StringLatin1$CharsSpliterator")] 3

def k10m0 : Method := { name := "<init>", desc := "()V", sig := { parameters := [], returnType := none }, accessFlags := 0, code := none }
def k10c1 : Code := { maxStack := 2, maxLocals := 2, code := jdk_43_method_2_code, exceptionTable := #[], attributes := #[] }
def k10m1 : Method := { name := "charAt", desc := "([BI)C", sig := { parameters := [(.array .byte), .int], returnType := some .char }, accessFlags := 9, code := some k10c1 }
/-- java/lang/StringLatin1 -/
def k10 : Class := { plain "java/lang/StringLatin1" (some 0) with
  accessFlags := 48
  interfaces := #[]
  cf := some (fileOf pool10 14 #[.nestMembers #[390, 221]] #[{ accessFlags := 0, nameIndex := 7, descriptorIndex := 8, attributes := #[] }, { accessFlags := 9, nameIndex := 252, descriptorIndex := 53, attributes := #[] }] 48 4 #[] #[{ accessFlags := 4120, nameIndex := 121, descriptorIndex := 122, attributes := #[] }])
  fields := #[{ name := "$assertionsDisabled", type := .boolean, accessFlags := 4120, slot := 0, constantValue := 0 }]
  methods := #[k10m0, k10m1]
  instanceTypes := #[]
  staticTypes := #[.boolean]
  resolved := Array.replicate 395 none
  statics := none }

def pool11 : Array CpInfo := pool [(2, .class_ 4), (1, u "java/lang/Object"), (0, u "<init>"), (0, u "()V"), (17, .class_ 26), (1, u "jdk/internal/util/Preconditions"), (6, u "checkIndex"), (13, u "checkFromToIndex"), (7, .class_ 56), (0, u "jdk/internal/util/Preconditions$4"), (57, .class_ 115), (0, u "jdk/internal/util/Preconditions$1"), (7, u "SIOOBE_FORMATTER"), (0, u "Ljava/util/function/BiFunction;"), (0, .class_ 126), (0, u "jdk/internal/util/Preconditions$2"), (3, u "AIOOBE_FORMATTER"), (0, .class_ 132), (0, u "jdk/internal/util/Preconditions$3"), (3, u "IOOBE_FORMATTER"), (41, u "(IILjava/util/function/BiFunction;)I"), (4, u "(IIILjava/util/function/BiFunction;)I")] 10

def k11m0 : Method := { name := "<init>", desc := "()V", sig := { parameters := [], returnType := none }, accessFlags := 1, code := none }
def k11c1 : Code := { maxStack := 3, maxLocals := 3, code := jdk_41_method_11_code, exceptionTable := #[], attributes := #[] }
def k11m1 : Method := { name := "checkIndex", desc := "(IILjava/util/function/BiFunction;)I", sig := { parameters := [.int, .int, (.object "java/util/function/BiFunction")], returnType := some .int }, accessFlags := 9, code := some k11c1 }
def k11c2 : Code := { maxStack := 4, maxLocals := 4, code := jdk_41_method_12_code, exceptionTable := #[], attributes := #[] }
def k11m2 : Method := { name := "checkFromToIndex", desc := "(IIILjava/util/function/BiFunction;)I", sig := { parameters := [.int, .int, .int, (.object "java/util/function/BiFunction")], returnType := some .int }, accessFlags := 9, code := some k11c2 }
/-- jdk/internal/util/Preconditions -/
def k11 : Class := { plain "jdk/internal/util/Preconditions" (some 0) with
  accessFlags := 33
  interfaces := #[]
  cf := some (fileOf pool11 24 #[.nestMembers #[55, 131, 125, 114]] #[{ accessFlags := 1, nameIndex := 5, descriptorIndex := 6, attributes := #[] }, { accessFlags := 9, nameIndex := 33, descriptorIndex := 178, attributes := #[] }, { accessFlags := 9, nameIndex := 47, descriptorIndex := 183, attributes := #[] }] 33 2 #[] #[{ accessFlags := 25, nameIndex := 123, descriptorIndex := 124, attributes := #[] }, { accessFlags := 25, nameIndex := 130, descriptorIndex := 124, attributes := #[] }, { accessFlags := 25, nameIndex := 136, descriptorIndex := 124, attributes := #[] }])
  fields := #[{ name := "SIOOBE_FORMATTER", type := (.object "java/util/function/BiFunction"), accessFlags := 25, slot := 0, constantValue := 0 }, { name := "AIOOBE_FORMATTER", type := (.object "java/util/function/BiFunction"), accessFlags := 25, slot := 1, constantValue := 0 }, { name := "IOOBE_FORMATTER", type := (.object "java/util/function/BiFunction"), accessFlags := 25, slot := 2, constantValue := 0 }]
  methods := #[k11m0, k11m1, k11m2]
  instanceTypes := #[]
  staticTypes := #[(.object "java/util/function/BiFunction"), (.object "java/util/function/BiFunction"), (.object "java/util/function/BiFunction")]
  resolved := Array.replicate 194 none
  statics := some 2 }

def pool12 : Array CpInfo := pool [(2, .class_ 4), (1, u "java/lang/Object"), (0, u "<init>"), (0, u "()V"), (35, .class_ 44), (1, u "java/util/Objects"), (61, .class_ 108), (1, u "jdk/internal/util/Preconditions"), (2, .methodref 106 112), (0, .nameAndType 113 114), (0, u "checkFromToIndex"), (0, u "(IIILjava/util/function/BiFunction;)I"), (60, u "(III)I")] 8

def k12m0 : Method := { name := "<init>", desc := "()V", sig := { parameters := [], returnType := none }, accessFlags := 2, code := none }
def k12c1 : Code := { maxStack := 4, maxLocals := 3, code := jdk_31_method_18_code, exceptionTable := #[], attributes := #[] }
def k12m1 : Method := { name := "checkFromToIndex", desc := "(III)I", sig := { parameters := [.int, .int, .int], returnType := some .int }, accessFlags := 9, code := some k12c1 }
/-- java/util/Objects -/
def k12 : Class := { plain "java/util/Objects" (some 0) with
  accessFlags := 49
  interfaces := #[]
  cf := some (fileOf pool12 42 #[] #[{ accessFlags := 2, nameIndex := 5, descriptorIndex := 6, attributes := #[] }, { accessFlags := 9, nameIndex := 113, descriptorIndex := 175, attributes := #[] }] 49 2 #[] #[])
  fields := #[]
  methods := #[k12m0, k12m1]
  instanceTypes := #[]
  staticTypes := #[]
  resolved := Array.replicate 184 none
  statics := none }

def pool13 : Array CpInfo := pool [(9, u "<init>"), (6, .class_ 18), (1, u "java/lang/Object"), (0, u "()V"), (1, .class_ 23), (1, u "jdk/internal/util/ArraysSupport"), (0, u "LOG2_ARRAY_LONG_INDEX_SCALE"), (0, u "I"), (2, u "U"), (0, u "Ljdk/internal/misc/Unsafe;"), (8, u "BIG_ENDIAN"), (0, u "Z"), (8, u "LOG2_BYTE_BIT_SIZE"), (4, u "LOG2_ARRAY_INT_INDEX_SCALE"), (54, u "JLA"), (0, u "Ljdk/internal/access/JavaLangAccess;"), (11, u "LOG2_ARRAY_BOOLEAN_INDEX_SCALE"), (9, u "LOG2_ARRAY_BYTE_INDEX_SCALE"), (5, u "LOG2_ARRAY_CHAR_INDEX_SCALE"), (5, u "LOG2_ARRAY_SHORT_INDEX_SCALE"), (18, u "LOG2_ARRAY_FLOAT_INDEX_SCALE"), (24, u "LOG2_ARRAY_DOUBLE_INDEX_SCALE"), (89, u "T_BOOLEAN"), (2, u "T_CHAR"), (1, u "T_FLOAT"), (1, u "T_DOUBLE"), (1, u "T_BYTE"), (1, u "T_SHORT"), (1, u "T_INT"), (1, u "T_LONG"), (1, u "SOFT_MAX_ARRAY_LENGTH")] 83

def k13m0 : Method := { name := "<init>", desc := "()V", sig := { parameters := [], returnType := none }, accessFlags := 2, code := none }
/-- jdk/internal/util/ArraysSupport -/
def k13 : Class := { plain "jdk/internal/util/ArraysSupport" (some 0) with
  accessFlags := 33
  interfaces := #[]
  cf := some (fileOf pool13 21 #[] #[{ accessFlags := 2, nameIndex := 9, descriptorIndex := 19, attributes := #[] }] 33 16 #[] #[{ accessFlags := 24, nameIndex := 28, descriptorIndex := 29, attributes := #[] }, { accessFlags := 26, nameIndex := 38, descriptorIndex := 39, attributes := #[] }, { accessFlags := 25, nameIndex := 121, descriptorIndex := 25, attributes := #[] }, { accessFlags := 25, nameIndex := 131, descriptorIndex := 25, attributes := #[] }, { accessFlags := 25, nameIndex := 137, descriptorIndex := 25, attributes := #[] }, { accessFlags := 25, nameIndex := 143, descriptorIndex := 25, attributes := #[] }, { accessFlags := 25, nameIndex := 53, descriptorIndex := 25, attributes := #[] }, { accessFlags := 25, nameIndex := 24, descriptorIndex := 25, attributes := #[] }, { accessFlags := 25, nameIndex := 162, descriptorIndex := 25, attributes := #[] }, { accessFlags := 25, nameIndex := 187, descriptorIndex := 25, attributes := #[] }, { accessFlags := 26, nameIndex := 48, descriptorIndex := 25, attributes := #[] }, { accessFlags := 25, nameIndex := 277, descriptorIndex := 25, attributes := #[] }, { accessFlags := 25, nameIndex := 280, descriptorIndex := 25, attributes := #[] }, { accessFlags := 25, nameIndex := 282, descriptorIndex := 25, attributes := #[] }, { accessFlags := 25, nameIndex := 284, descriptorIndex := 25, attributes := #[] }, { accessFlags := 25, nameIndex := 286, descriptorIndex := 25, attributes := #[] }, { accessFlags := 25, nameIndex := 288, descriptorIndex := 25, attributes := #[] }, { accessFlags := 25, nameIndex := 290, descriptorIndex := 25, attributes := #[] }, { accessFlags := 25, nameIndex := 292, descriptorIndex := 25, attributes := #[] }, { accessFlags := 26, nameIndex := 108, descriptorIndex := 109, attributes := #[] }, { accessFlags := 25, nameIndex := 294, descriptorIndex := 25, attributes := #[] }])
  fields := #[{ name := "U", type := (.object "jdk/internal/misc/Unsafe"), accessFlags := 24, slot := 0, constantValue := 0 }, { name := "BIG_ENDIAN", type := .boolean, accessFlags := 26, slot := 1, constantValue := 0 }, { name := "LOG2_ARRAY_BOOLEAN_INDEX_SCALE", type := .int, accessFlags := 25, slot := 2, constantValue := 0 }, { name := "LOG2_ARRAY_BYTE_INDEX_SCALE", type := .int, accessFlags := 25, slot := 3, constantValue := 0 }, { name := "LOG2_ARRAY_CHAR_INDEX_SCALE", type := .int, accessFlags := 25, slot := 4, constantValue := 0 }, { name := "LOG2_ARRAY_SHORT_INDEX_SCALE", type := .int, accessFlags := 25, slot := 5, constantValue := 0 }, { name := "LOG2_ARRAY_INT_INDEX_SCALE", type := .int, accessFlags := 25, slot := 6, constantValue := 0 }, { name := "LOG2_ARRAY_LONG_INDEX_SCALE", type := .int, accessFlags := 25, slot := 7, constantValue := 0 }, { name := "LOG2_ARRAY_FLOAT_INDEX_SCALE", type := .int, accessFlags := 25, slot := 8, constantValue := 0 }, { name := "LOG2_ARRAY_DOUBLE_INDEX_SCALE", type := .int, accessFlags := 25, slot := 9, constantValue := 0 }, { name := "LOG2_BYTE_BIT_SIZE", type := .int, accessFlags := 26, slot := 10, constantValue := 0 }, { name := "T_BOOLEAN", type := .int, accessFlags := 25, slot := 11, constantValue := 0 }, { name := "T_CHAR", type := .int, accessFlags := 25, slot := 12, constantValue := 0 }, { name := "T_FLOAT", type := .int, accessFlags := 25, slot := 13, constantValue := 0 }, { name := "T_DOUBLE", type := .int, accessFlags := 25, slot := 14, constantValue := 0 }, { name := "T_BYTE", type := .int, accessFlags := 25, slot := 15, constantValue := 0 }, { name := "T_SHORT", type := .int, accessFlags := 25, slot := 16, constantValue := 0 }, { name := "T_INT", type := .int, accessFlags := 25, slot := 17, constantValue := 0 }, { name := "T_LONG", type := .int, accessFlags := 25, slot := 18, constantValue := 0 }, { name := "JLA", type := (.object "jdk/internal/access/JavaLangAccess"), accessFlags := 26, slot := 19, constantValue := 0 }, { name := "SOFT_MAX_ARRAY_LENGTH", type := .int, accessFlags := 25, slot := 20, constantValue := 0 }]
  methods := #[k13m0]
  instanceTypes := #[]
  staticTypes := #[(.object "jdk/internal/misc/Unsafe"), .boolean, .int, .int, .int, .int, .int, .int, .int, .int, .int, .int, .int, .int, .int, .int, .int, .int, .int, (.object "jdk/internal/access/JavaLangAccess"), .int]
  resolved := Array.replicate 378 none
  statics := none }

def pool14 : Array CpInfo := pool [(1, u "java/lang/Cloneable"), (0, .class_ 1), (0, u "java/lang/Object"), (0, .class_ 3)] 3

/-- java/lang/Cloneable -/
def k14 : Class := { plain "java/lang/Cloneable" (some 0) with
  accessFlags := 1537
  interfaces := #[]
  cf := some (fileOf pool14 2 #[] #[] 1537 4 #[] #[])
  fields := #[]
  methods := #[]
  instanceTypes := #[]
  staticTypes := #[]
  resolved := Array.replicate 8 none
  statics := none }

/-- the primitive byte -/
def k15 : Class := { plain "byte" none with kind := .primitive 'B', accessFlags := 0x411 }
/-- [B -/
def k16 : Class := { plain "[B" (some 0) with kind := .array 15 .byte, interfaces := #[14, 3], accessFlags := 1041 }

/-- the primitive char -/
def k17 : Class := { plain "char" none with kind := .primitive 'C', accessFlags := 0x411 }
/-- [C -/
def k18 : Class := { plain "[C" (some 0) with kind := .array 17 .char, interfaces := #[14, 3], accessFlags := 1041 }

/-- the primitive int -/
def k19 : Class := { plain "int" none with kind := .primitive 'I', accessFlags := 0x411 }
/-- [I -/
def k20 : Class := { plain "[I" (some 0) with kind := .array 19 .int, interfaces := #[14, 3], accessFlags := 1041 }

def heap : Heap := #[{ cls := 8, slots := #[.long 0, .int 1, .null, .int 0, .null, .int 0, .int 0], vm := .statics 8 },
  { cls := 9, slots := #[.int 0, .int 8, .int 0, .int 1], vm := .statics 9 },
  { cls := 11, slots := #[.null, .null, .null], vm := .statics 11 }]
def classes : Array Class := #[k0, k1, k2, k3, k4, k5, k6, k7, k8, k9, k10, k11, k12, k13, k14, k15, k16, k17, k18, k19, k20]
def interned : List (Array UInt16 × Addr) := []
def slotsUsed : Nat := 14
def theMethod : MethodId := ⟨1, 1⟩
def args0 : Array Value := #[.int 5]
def aboutOver (below : List Frame) : State where
  vm := { classes := classes, interned := interned.toArray }
  heap := heap
  slotsUsed := slotsUsed
  threads := #[{ frames := .invoking theMethod args0 :: below }]
def below0 : List Frame := [.native { method := ⟨0, 0⟩, args := #[] }]
def about1 : State := aboutOver below0
def p0 : Program := .bare "" "" ""
def e0 : Env := launch0.env 0 0 0
theorem w_frames : about1.frames = Frame.invoking theMethod args0 :: below0 := rfl
set_option maxRecDepth 65536 in
theorem w_args : argsFit about1.vm theMethod args0 = true := by decide +kernel
set_option maxRecDepth 65536 in
theorem w_heap : heapFits about1 = true := by decide +kernel
set_option maxRecDepth 65536 in
theorem w_runnable : about1.curStatus? = some .runnable := by decide +kernel
set_option maxRecDepth 65536 in
theorem w_alone : about1.alone = true := by decide +kernel
set_option maxRecDepth 65536 in
theorem w_named : about1.methodNamed? x = some theMethod := by decide +kernel
set_option maxRecDepth 65536 in
theorem w_hears : about1.hears theMethod below0 = true := by decide +kernel
set_option maxRecDepth 65536 in
theorem w_ripe : about1.ripe theMethod args0 below0 = true := by decide +kernel
theorem w_running : about1.status = .running := rfl
set_option maxRecDepth 65536 in
theorem w_room : about1.hasRoom e0.platform room_1 = true :=
  launch0.hasRoom_least _ room_1 (by decide +kernel) (by decide +kernel) (by decide +kernel) (by decide +kernel) (by decide +kernel) (by decide +kernel)
theorem allAtoms_all (ts : List Jvm.Cond) (a : Array Jvm.Value) (st : Jvm.State) : (allAtoms ts).before a st = ts.all (fun c => c.before a st) := by
  induction ts with
  | nil => rfl
  | cons c t ih =>
    show (Jvm.Cond.and c (allAtoms t)).before a st = _
    rw [Jvm.Cond.before_and, ih, List.all_cons]
def words1 : List Jvm.Cond := Jvm.Cond.code x code maxLocals ret :: tables_1
/-- a 'code' word, met by the world's own term for the bytes: nothing is compared byte by byte -/
theorem code_word {y : MethodName} {bytes : ByteArray} {mx : Nat} {rt : Option FieldType} {a : Array Value} {s : State} {m : MethodId} {meth : Method} {c : Code} (h1 : s.methodNamed? y = some m) (h2 : s.vm.method? m = some meth) (h3 : meth.code = some c) (h4 : c.code = bytes)
    (h5 : (c.maxLocals == mx && c.exceptionTable.isEmpty && decide (c.maxStack ≤ mostOperands) && decide (meth.sig.returnType = rt) && !meth.locks && decide (parseMethodDescriptor y.desc = some meth.sig)) = true) : (Jvm.Cond.code y bytes mx rt).before a s = true := by
  simp only [Bool.and_eq_true, beq_iff_eq, Bool.not_eq_true', decide_eq_true_eq] at h5
  obtain ⟨⟨⟨⟨⟨g1, g2⟩, g3⟩, g4⟩, g5⟩, g6⟩ := h5
  simp [Cond.before, Cond.holds, Cond.value, h1, h2, h3, h4, g1, g2, g3, g4, g5, g6]
def isCode : Jvm.Cond → Bool
  | .code _ _ _ _ => true
  | _ => false
theorem all_split {L : List Jvm.Cond} {P : Jvm.Cond → Bool} (h1 : L.all (fun c => isCode c || P c) = true) (h2 : ∀ c ∈ L.filter isCode, P c = true) : L.all P = true := by
  refine List.all_eq_true.mpr fun c hc => ?_
  have h := List.all_eq_true.mp h1 c hc
  rcases Bool.eq_false_or_eq_true (isCode c) with hi | hi
  · exact h2 c (List.mem_filter.mpr ⟨hc, hi⟩)
  · simpa [hi] using h
set_option maxRecDepth 65536 in
theorem w_c0 : (Jvm.Cond.code x code maxLocals ret).before args0 about1 = true := code_word (m := ⟨1, 1⟩) (meth := k1m1) (c := k1c1) (by decide +kernel) rfl rfl rfl (by decide +kernel)
set_option maxRecDepth 65536 in
theorem w_c1 : (Jvm.Cond.code ({ cls := "com/example/settle/settle/io/LineCursor", name := "isBlank", desc := "(I)Z" } : Jvm.MethodName) prog_32_method_19_code (1 : Nat) (Option.some Jvm.ClassFile.FieldType.boolean)).before args0 about1 = true := code_word (m := ⟨2, 5⟩) (meth := k2m5) (c := k2c5) (by decide +kernel) rfl rfl rfl (by decide +kernel)
set_option maxRecDepth 65536 in
theorem w_c2 : (Jvm.Cond.code ({ cls := "java/lang/String", name := "<init>", desc := "([C)V" } : Jvm.MethodName) jdk_42_method_3_code (2 : Nat) (Option.none : Option Jvm.ClassFile.FieldType)).before args0 about1 = true := code_word (m := ⟨8, 1⟩) (meth := k8m1) (c := k8c1) (by decide +kernel) rfl rfl rfl (by decide +kernel)
set_option maxRecDepth 65536 in
theorem w_c3 : (Jvm.Cond.code ({ cls := "java/lang/String", name := "<init>", desc := "([CIILjava/lang/Void;)V" } : Jvm.MethodName) jdk_42_method_149_code (6 : Nat) (Option.none : Option Jvm.ClassFile.FieldType)).before args0 about1 = true := code_word (m := ⟨8, 5⟩) (meth := k8m5) (c := k8c5) (by decide +kernel) rfl rfl rfl (by decide +kernel)
set_option maxRecDepth 65536 in
theorem w_c4 : (Jvm.Cond.code ({ cls := "java/lang/Object", name := "<init>", desc := "()V" } : Jvm.MethodName) object_method_1_code (1 : Nat) (Option.none : Option Jvm.ClassFile.FieldType)).before args0 about1 = true := code_word (m := ⟨0, 0⟩) (meth := k0m0) (c := k0c0) (by decide +kernel) rfl rfl rfl (by decide +kernel)
set_option maxRecDepth 65536 in
theorem w_c5 : (Jvm.Cond.code ({ cls := "java/lang/StringUTF16", name := "compress", desc := "([CII)[B" } : Jvm.MethodName) jdk_52_method_16_code (6 : Nat) (Option.some (Jvm.ClassFile.FieldType.array Jvm.ClassFile.FieldType.byte))).before args0 about1 = true := code_word (m := ⟨9, 10⟩) (meth := k9m10) (c := k9c10) (by decide +kernel) rfl rfl rfl (by decide +kernel)
set_option maxRecDepth 65536 in
theorem w_c6 : (Jvm.Cond.code ({ cls := "java/lang/StringUTF16", name := "compress", desc := "([CI[BII)I" } : Jvm.MethodName) jdk_52_method_21_code (7 : Nat) (Option.some Jvm.ClassFile.FieldType.int)).before args0 about1 = true := code_word (m := ⟨9, 11⟩) (meth := k9m11) (c := k9c11) (by decide +kernel) rfl rfl rfl (by decide +kernel)
set_option maxRecDepth 65536 in
theorem w_c7 : (Jvm.Cond.code ({ cls := "java/lang/StringUTF16", name := "coderFromArrayLen", desc := "([BI)B" } : Jvm.MethodName) jdk_52_method_15_code (2 : Nat) (Option.some Jvm.ClassFile.FieldType.byte)).before args0 about1 = true := code_word (m := ⟨9, 9⟩) (meth := k9m9) (c := k9c9) (by decide +kernel) rfl rfl rfl (by decide +kernel)
set_option maxRecDepth 65536 in
theorem w_c8 : (Jvm.Cond.code ({ cls := "com/example/settle/settle/io/LineCursor", name := "<init>", desc := "(Ljava/lang/String;I)V" } : Jvm.MethodName) prog_32_method_1_code (3 : Nat) (Option.none : Option Jvm.ClassFile.FieldType)).before args0 about1 = true := code_word (m := ⟨2, 0⟩) (meth := k2m0) (c := k2c0) (by decide +kernel) rfl rfl rfl (by decide +kernel)
set_option maxRecDepth 65536 in
theorem w_c9 : (Jvm.Cond.code ({ cls := "com/example/settle/settle/io/LineCursor", name := "<init>", desc := "(Ljava/lang/String;IZ)V" } : Jvm.MethodName) prog_32_method_2_code (4 : Nat) (Option.none : Option Jvm.ClassFile.FieldType)).before args0 about1 = true := code_word (m := ⟨2, 1⟩) (meth := k2m1) (c := k2c1) (by decide +kernel) rfl rfl rfl (by decide +kernel)
set_option maxRecDepth 65536 in
theorem w_c10 : (Jvm.Cond.code ({ cls := "com/example/settle/settle/io/LineCursor", name := "column", desc := "()I" } : Jvm.MethodName) prog_32_method_15_code (1 : Nat) (Option.some Jvm.ClassFile.FieldType.int)).before args0 about1 = true := code_word (m := ⟨2, 2⟩) (meth := k2m2) (c := k2c2) (by decide +kernel) rfl rfl rfl (by decide +kernel)
set_option maxRecDepth 65536 in
theorem w_c11 : (Jvm.Cond.code ({ cls := "com/example/settle/settle/io/LineCursor", name := "skipBlanks", desc := "()V" } : Jvm.MethodName) prog_32_method_18_code (1 : Nat) (Option.none : Option Jvm.ClassFile.FieldType)).before args0 about1 = true := code_word (m := ⟨2, 4⟩) (meth := k2m4) (c := k2c4) (by decide +kernel) rfl rfl rfl (by decide +kernel)
set_option maxRecDepth 65536 in
theorem w_c12 : (Jvm.Cond.code ({ cls := "java/lang/String", name := "length", desc := "()I" } : Jvm.MethodName) jdk_42_method_54_code (1 : Nat) (Option.some Jvm.ClassFile.FieldType.int)).before args0 about1 = true := code_word (m := ⟨8, 2⟩) (meth := k8m2) (c := k8c2) (by decide +kernel) rfl rfl rfl (by decide +kernel)
set_option maxRecDepth 65536 in
theorem w_c13 : (Jvm.Cond.code ({ cls := "java/lang/String", name := "coder", desc := "()B" } : Jvm.MethodName) jdk_42_method_152_code (1 : Nat) (Option.some Jvm.ClassFile.FieldType.byte)).before args0 about1 = true := code_word (m := ⟨8, 6⟩) (meth := k8m6) (c := k8c6) (by decide +kernel) rfl rfl rfl (by decide +kernel)
set_option maxRecDepth 65536 in
theorem w_c14 : (Jvm.Cond.code ({ cls := "java/lang/String", name := "charAt", desc := "(I)C" } : Jvm.MethodName) jdk_42_method_56_code (2 : Nat) (Option.some Jvm.ClassFile.FieldType.char)).before args0 about1 = true := code_word (m := ⟨8, 3⟩) (meth := k8m3) (c := k8c3) (by decide +kernel) rfl rfl rfl (by decide +kernel)
set_option maxRecDepth 65536 in
theorem w_c15 : (Jvm.Cond.code ({ cls := "java/lang/String", name := "isLatin1", desc := "()Z" } : Jvm.MethodName) jdk_42_method_154_code (1 : Nat) (Option.some Jvm.ClassFile.FieldType.boolean)).before args0 about1 = true := code_word (m := ⟨8, 7⟩) (meth := k8m7) (c := k8c7) (by decide +kernel) rfl rfl rfl (by decide +kernel)
set_option maxRecDepth 65536 in
theorem w_c16 : (Jvm.Cond.code ({ cls := "java/lang/StringLatin1", name := "charAt", desc := "([BI)C" } : Jvm.MethodName) jdk_43_method_2_code (2 : Nat) (Option.some Jvm.ClassFile.FieldType.char)).before args0 about1 = true := code_word (m := ⟨10, 1⟩) (meth := k10m1) (c := k10c1) (by decide +kernel) rfl rfl rfl (by decide +kernel)
set_option maxRecDepth 65536 in
theorem w_c17 : (Jvm.Cond.code ({ cls := "java/lang/String", name := "checkIndex", desc := "(II)V" } : Jvm.MethodName) jdk_42_method_155_code (2 : Nat) (Option.none : Option Jvm.ClassFile.FieldType)).before args0 about1 = true := code_word (m := ⟨8, 8⟩) (meth := k8m8) (c := k8c8) (by decide +kernel) rfl rfl rfl (by decide +kernel)
set_option maxRecDepth 65536 in
theorem w_c18 : (Jvm.Cond.code ({ cls := "jdk/internal/util/Preconditions", name := "checkIndex", desc := "(IILjava/util/function/BiFunction;)I" } : Jvm.MethodName) jdk_41_method_11_code (3 : Nat) (Option.some Jvm.ClassFile.FieldType.int)).before args0 about1 = true := code_word (m := ⟨11, 1⟩) (meth := k11m1) (c := k11c1) (by decide +kernel) rfl rfl rfl (by decide +kernel)
set_option maxRecDepth 65536 in
theorem w_c19 : (Jvm.Cond.code ({ cls := "com/example/settle/settle/io/LineCursor", name := "currentColumn", desc := "()I" } : Jvm.MethodName) prog_32_method_17_code (1 : Nat) (Option.some Jvm.ClassFile.FieldType.int)).before args0 about1 = true := code_word (m := ⟨2, 3⟩) (meth := k2m3) (c := k2c3) (by decide +kernel) rfl rfl rfl (by decide +kernel)
set_option maxRecDepth 65536 in
theorem w_c20 : (Jvm.Cond.code ({ cls := "java/lang/String", name := "codePointCount", desc := "(II)I" } : Jvm.MethodName) jdk_42_method_59_code (3 : Nat) (Option.some Jvm.ClassFile.FieldType.int)).before args0 about1 = true := code_word (m := ⟨8, 4⟩) (meth := k8m4) (c := k8c4) (by decide +kernel) rfl rfl rfl (by decide +kernel)
set_option maxRecDepth 65536 in
theorem w_c21 : (Jvm.Cond.code ({ cls := "java/util/Objects", name := "checkFromToIndex", desc := "(III)I" } : Jvm.MethodName) jdk_31_method_18_code (3 : Nat) (Option.some Jvm.ClassFile.FieldType.int)).before args0 about1 = true := code_word (m := ⟨12, 1⟩) (meth := k12m1) (c := k12c1) (by decide +kernel) rfl rfl rfl (by decide +kernel)
set_option maxRecDepth 65536 in
theorem w_c22 : (Jvm.Cond.code ({ cls := "jdk/internal/util/Preconditions", name := "checkFromToIndex", desc := "(IIILjava/util/function/BiFunction;)I" } : Jvm.MethodName) jdk_41_method_12_code (4 : Nat) (Option.some Jvm.ClassFile.FieldType.int)).before args0 about1 = true := code_word (m := ⟨11, 2⟩) (meth := k11m2) (c := k11c2) (by decide +kernel) rfl rfl rfl (by decide +kernel)
set_option maxRecDepth 65536 in
theorem w_c23 : (Jvm.Cond.code ({ cls := "java/lang/StringUTF16", name := "toBytes", desc := "([CII)[B" } : Jvm.MethodName) jdk_52_method_14_code (5 : Nat) (Option.some (Jvm.ClassFile.FieldType.array Jvm.ClassFile.FieldType.byte))).before args0 about1 = true := code_word (m := ⟨9, 8⟩) (meth := k9m8) (c := k9c8) (by decide +kernel) rfl rfl rfl (by decide +kernel)
set_option maxRecDepth 65536 in
theorem w_c24 : (Jvm.Cond.code ({ cls := "java/lang/StringUTF16", name := "newBytesFor", desc := "(I)[B" } : Jvm.MethodName) jdk_52_method_2_code (1 : Nat) (Option.some (Jvm.ClassFile.FieldType.array Jvm.ClassFile.FieldType.byte))).before args0 about1 = true := code_word (m := ⟨9, 1⟩) (meth := k9m1) (c := k9c1) (by decide +kernel) rfl rfl rfl (by decide +kernel)
set_option maxRecDepth 65536 in
theorem w_c25 : (Jvm.Cond.code ({ cls := "java/lang/StringUTF16", name := "newBytesLength", desc := "(I)I" } : Jvm.MethodName) jdk_52_method_3_code (1 : Nat) (Option.some Jvm.ClassFile.FieldType.int)).before args0 about1 = true := code_word (m := ⟨9, 2⟩) (meth := k9m2) (c := k9c2) (by decide +kernel) rfl rfl rfl (by decide +kernel)
set_option maxRecDepth 65536 in
theorem w_c26 : (Jvm.Cond.code ({ cls := "java/lang/StringUTF16", name := "putChar", desc := "([BII)V" } : Jvm.MethodName) jdk_52_method_4_code (3 : Nat) (Option.none : Option Jvm.ClassFile.FieldType)).before args0 about1 = true := code_word (m := ⟨9, 3⟩) (meth := k9m3) (c := k9c3) (by decide +kernel) rfl rfl rfl (by decide +kernel)
set_option maxRecDepth 65536 in
theorem w_c27 : (Jvm.Cond.code ({ cls := "java/lang/StringUTF16", name := "getChar", desc := "([BI)C" } : Jvm.MethodName) jdk_52_method_5_code (2 : Nat) (Option.some Jvm.ClassFile.FieldType.char)).before args0 about1 = true := code_word (m := ⟨9, 4⟩) (meth := k9m4) (c := k9c4) (by decide +kernel) rfl rfl rfl (by decide +kernel)
set_option maxRecDepth 65536 in
theorem w_c28 : (Jvm.Cond.code ({ cls := "java/lang/StringUTF16", name := "charAt", desc := "([BI)C" } : Jvm.MethodName) jdk_52_method_83_code (2 : Nat) (Option.some Jvm.ClassFile.FieldType.char)).before args0 about1 = true := code_word (m := ⟨9, 12⟩) (meth := k9m12) (c := k9c12) (by decide +kernel) rfl rfl rfl (by decide +kernel)
set_option maxRecDepth 65536 in
theorem w_c29 : (Jvm.Cond.code ({ cls := "java/lang/StringUTF16", name := "checkIndex", desc := "(I[B)V" } : Jvm.MethodName) jdk_52_method_91_code (2 : Nat) (Option.none : Option Jvm.ClassFile.FieldType)).before args0 about1 = true := code_word (m := ⟨9, 13⟩) (meth := k9m13) (c := k9c13) (by decide +kernel) rfl rfl rfl (by decide +kernel)
set_option maxRecDepth 65536 in
theorem w_c30 : (Jvm.Cond.code ({ cls := "java/lang/StringUTF16", name := "length", desc := "([B)I" } : Jvm.MethodName) jdk_52_method_6_code (1 : Nat) (Option.some Jvm.ClassFile.FieldType.int)).before args0 about1 = true := code_word (m := ⟨9, 5⟩) (meth := k9m5) (c := k9c5) (by decide +kernel) rfl rfl rfl (by decide +kernel)
set_option maxRecDepth 65536 in
theorem w_c31 : (Jvm.Cond.code ({ cls := "java/lang/StringUTF16", name := "codePointCount", desc := "([BII)I" } : Jvm.MethodName) jdk_52_method_12_code (3 : Nat) (Option.some Jvm.ClassFile.FieldType.int)).before args0 about1 = true := code_word (m := ⟨9, 7⟩) (meth := k9m7) (c := k9c7) (by decide +kernel) rfl rfl rfl (by decide +kernel)
set_option maxRecDepth 65536 in
theorem w_c32 : (Jvm.Cond.code ({ cls := "java/lang/StringUTF16", name := "codePointCount", desc := "([BIIZ)I" } : Jvm.MethodName) jdk_52_method_11_code (6 : Nat) (Option.some Jvm.ClassFile.FieldType.int)).before args0 about1 = true := code_word (m := ⟨9, 6⟩) (meth := k9m6) (c := k9c6) (by decide +kernel) rfl rfl rfl (by decide +kernel)
def codes1 : List Jvm.Cond := [Jvm.Cond.code x code maxLocals ret, Jvm.Cond.code ({ cls := "com/example/settle/settle/io/LineCursor", name := "isBlank", desc := "(I)Z" } : Jvm.MethodName) prog_32_method_19_code (1 : Nat) (Option.some Jvm.ClassFile.FieldType.boolean), Jvm.Cond.code ({ cls := "java/lang/String", name := "<init>", desc := "([C)V" } : Jvm.MethodName) jdk_42_method_3_code (2 : Nat) (Option.none : Option Jvm.ClassFile.FieldType), Jvm.Cond.code ({ cls := "java/lang/String", name := "<init>", desc := "([CIILjava/lang/Void;)V" } : Jvm.MethodName) jdk_42_method_149_code (6 : Nat) (Option.none : Option Jvm.ClassFile.FieldType), Jvm.Cond.code ({ cls := "java/lang/Object", name := "<init>", desc := "()V" } : Jvm.MethodName) object_method_1_code (1 : Nat) (Option.none : Option Jvm.ClassFile.FieldType), Jvm.Cond.code ({ cls := "java/lang/StringUTF16", name := "compress", desc := "([CII)[B" } : Jvm.MethodName) jdk_52_method_16_code (6 : Nat) (Option.some (Jvm.ClassFile.FieldType.array Jvm.ClassFile.FieldType.byte)), Jvm.Cond.code ({ cls := "java/lang/StringUTF16", name := "compress", desc := "([CI[BII)I" } : Jvm.MethodName) jdk_52_method_21_code (7 : Nat) (Option.some Jvm.ClassFile.FieldType.int), Jvm.Cond.code ({ cls := "java/lang/StringUTF16", name := "coderFromArrayLen", desc := "([BI)B" } : Jvm.MethodName) jdk_52_method_15_code (2 : Nat) (Option.some Jvm.ClassFile.FieldType.byte), Jvm.Cond.code ({ cls := "com/example/settle/settle/io/LineCursor", name := "<init>", desc := "(Ljava/lang/String;I)V" } : Jvm.MethodName) prog_32_method_1_code (3 : Nat) (Option.none : Option Jvm.ClassFile.FieldType), Jvm.Cond.code ({ cls := "com/example/settle/settle/io/LineCursor", name := "<init>", desc := "(Ljava/lang/String;IZ)V" } : Jvm.MethodName) prog_32_method_2_code (4 : Nat) (Option.none : Option Jvm.ClassFile.FieldType), Jvm.Cond.code ({ cls := "com/example/settle/settle/io/LineCursor", name := "column", desc := "()I" } : Jvm.MethodName) prog_32_method_15_code (1 : Nat) (Option.some Jvm.ClassFile.FieldType.int), Jvm.Cond.code ({ cls := "com/example/settle/settle/io/LineCursor", name := "skipBlanks", desc := "()V" } : Jvm.MethodName) prog_32_method_18_code (1 : Nat) (Option.none : Option Jvm.ClassFile.FieldType), Jvm.Cond.code ({ cls := "java/lang/String", name := "length", desc := "()I" } : Jvm.MethodName) jdk_42_method_54_code (1 : Nat) (Option.some Jvm.ClassFile.FieldType.int), Jvm.Cond.code ({ cls := "java/lang/String", name := "coder", desc := "()B" } : Jvm.MethodName) jdk_42_method_152_code (1 : Nat) (Option.some Jvm.ClassFile.FieldType.byte), Jvm.Cond.code ({ cls := "java/lang/String", name := "charAt", desc := "(I)C" } : Jvm.MethodName) jdk_42_method_56_code (2 : Nat) (Option.some Jvm.ClassFile.FieldType.char), Jvm.Cond.code ({ cls := "java/lang/String", name := "isLatin1", desc := "()Z" } : Jvm.MethodName) jdk_42_method_154_code (1 : Nat) (Option.some Jvm.ClassFile.FieldType.boolean), Jvm.Cond.code ({ cls := "java/lang/StringLatin1", name := "charAt", desc := "([BI)C" } : Jvm.MethodName) jdk_43_method_2_code (2 : Nat) (Option.some Jvm.ClassFile.FieldType.char), Jvm.Cond.code ({ cls := "java/lang/String", name := "checkIndex", desc := "(II)V" } : Jvm.MethodName) jdk_42_method_155_code (2 : Nat) (Option.none : Option Jvm.ClassFile.FieldType), Jvm.Cond.code ({ cls := "jdk/internal/util/Preconditions", name := "checkIndex", desc := "(IILjava/util/function/BiFunction;)I" } : Jvm.MethodName) jdk_41_method_11_code (3 : Nat) (Option.some Jvm.ClassFile.FieldType.int), Jvm.Cond.code ({ cls := "com/example/settle/settle/io/LineCursor", name := "currentColumn", desc := "()I" } : Jvm.MethodName) prog_32_method_17_code (1 : Nat) (Option.some Jvm.ClassFile.FieldType.int), Jvm.Cond.code ({ cls := "java/lang/String", name := "codePointCount", desc := "(II)I" } : Jvm.MethodName) jdk_42_method_59_code (3 : Nat) (Option.some Jvm.ClassFile.FieldType.int), Jvm.Cond.code ({ cls := "java/util/Objects", name := "checkFromToIndex", desc := "(III)I" } : Jvm.MethodName) jdk_31_method_18_code (3 : Nat) (Option.some Jvm.ClassFile.FieldType.int), Jvm.Cond.code ({ cls := "jdk/internal/util/Preconditions", name := "checkFromToIndex", desc := "(IIILjava/util/function/BiFunction;)I" } : Jvm.MethodName) jdk_41_method_12_code (4 : Nat) (Option.some Jvm.ClassFile.FieldType.int), Jvm.Cond.code ({ cls := "java/lang/StringUTF16", name := "toBytes", desc := "([CII)[B" } : Jvm.MethodName) jdk_52_method_14_code (5 : Nat) (Option.some (Jvm.ClassFile.FieldType.array Jvm.ClassFile.FieldType.byte)), Jvm.Cond.code ({ cls := "java/lang/StringUTF16", name := "newBytesFor", desc := "(I)[B" } : Jvm.MethodName) jdk_52_method_2_code (1 : Nat) (Option.some (Jvm.ClassFile.FieldType.array Jvm.ClassFile.FieldType.byte)), Jvm.Cond.code ({ cls := "java/lang/StringUTF16", name := "newBytesLength", desc := "(I)I" } : Jvm.MethodName) jdk_52_method_3_code (1 : Nat) (Option.some Jvm.ClassFile.FieldType.int), Jvm.Cond.code ({ cls := "java/lang/StringUTF16", name := "putChar", desc := "([BII)V" } : Jvm.MethodName) jdk_52_method_4_code (3 : Nat) (Option.none : Option Jvm.ClassFile.FieldType), Jvm.Cond.code ({ cls := "java/lang/StringUTF16", name := "getChar", desc := "([BI)C" } : Jvm.MethodName) jdk_52_method_5_code (2 : Nat) (Option.some Jvm.ClassFile.FieldType.char), Jvm.Cond.code ({ cls := "java/lang/StringUTF16", name := "charAt", desc := "([BI)C" } : Jvm.MethodName) jdk_52_method_83_code (2 : Nat) (Option.some Jvm.ClassFile.FieldType.char), Jvm.Cond.code ({ cls := "java/lang/StringUTF16", name := "checkIndex", desc := "(I[B)V" } : Jvm.MethodName) jdk_52_method_91_code (2 : Nat) (Option.none : Option Jvm.ClassFile.FieldType), Jvm.Cond.code ({ cls := "java/lang/StringUTF16", name := "length", desc := "([B)I" } : Jvm.MethodName) jdk_52_method_6_code (1 : Nat) (Option.some Jvm.ClassFile.FieldType.int), Jvm.Cond.code ({ cls := "java/lang/StringUTF16", name := "codePointCount", desc := "([BII)I" } : Jvm.MethodName) jdk_52_method_12_code (3 : Nat) (Option.some Jvm.ClassFile.FieldType.int), Jvm.Cond.code ({ cls := "java/lang/StringUTF16", name := "codePointCount", desc := "([BIIZ)I" } : Jvm.MethodName) jdk_52_method_11_code (6 : Nat) (Option.some Jvm.ClassFile.FieldType.int)]
set_option maxRecDepth 65536 in
theorem codes_eq : words1.filter isCode = codes1 := rfl
theorem w_codes : ∀ c ∈ words1.filter isCode, c.before args0 about1 = true := by
  rw [codes_eq]
  intro c hc
  simp only [codes1, List.mem_cons, List.not_mem_nil, or_false] at hc
  rcases hc with rfl | rfl | rfl | rfl | rfl | rfl | rfl | rfl | rfl | rfl | rfl | rfl | rfl | rfl | rfl | rfl | rfl | rfl | rfl | rfl | rfl | rfl | rfl | rfl | rfl | rfl | rfl | rfl | rfl | rfl | rfl | rfl | rfl
  · exact w_c0
  · exact w_c1
  · exact w_c2
  · exact w_c3
  · exact w_c4
  · exact w_c5
  · exact w_c6
  · exact w_c7
  · exact w_c8
  · exact w_c9
  · exact w_c10
  · exact w_c11
  · exact w_c12
  · exact w_c13
  · exact w_c14
  · exact w_c15
  · exact w_c16
  · exact w_c17
  · exact w_c18
  · exact w_c19
  · exact w_c20
  · exact w_c21
  · exact w_c22
  · exact w_c23
  · exact w_c24
  · exact w_c25
  · exact w_c26
  · exact w_c27
  · exact w_c28
  · exact w_c29
  · exact w_c30
  · exact w_c31
  · exact w_c32
set_option maxRecDepth 65536 in
theorem w_t1 : (words1.take 24).all (fun c => isCode c || c.before args0 about1) = true := by decide +kernel
set_option maxRecDepth 65536 in
theorem w_t2 : ((words1.drop 24).take 24).all (fun c => isCode c || c.before args0 about1) = true := by decide +kernel
set_option maxRecDepth 65536 in
theorem w_t3 : (((words1.drop 24).drop 24).take 24).all (fun c => isCode c || c.before args0 about1) = true := by decide +kernel
set_option maxRecDepth 65536 in
theorem w_t4 : ((((words1.drop 24).drop 24).drop 24).take 24).all (fun c => isCode c || c.before args0 about1) = true := by decide +kernel
set_option maxRecDepth 65536 in
theorem w_t5 : (((((words1.drop 24).drop 24).drop 24).drop 24).take 24).all (fun c => isCode c || c.before args0 about1) = true := by decide +kernel
set_option maxRecDepth 65536 in
theorem w_t6 : ((((((words1.drop 24).drop 24).drop 24).drop 24).drop 24).take 24).all (fun c => isCode c || c.before args0 about1) = true := by decide +kernel
set_option maxRecDepth 65536 in
theorem w_t7 : ((((((words1.drop 24).drop 24).drop 24).drop 24).drop 24).drop 24).all (fun c => isCode c || c.before args0 about1) = true := by decide +kernel
theorem w_tables : (allAtoms (Jvm.Cond.code x code maxLocals ret :: tables_1)).before args0 about1 = true := by
  rw [allAtoms_all]
  show words1.all (fun c => c.before args0 about1) = true
  refine all_split ?_ w_codes
  rw [← List.take_append_drop 24 words1, List.all_append, w_t1, ← List.take_append_drop 24 (words1.drop 24), List.all_append, w_t2, ← List.take_append_drop 24 ((words1.drop 24).drop 24), List.all_append, w_t3, ← List.take_append_drop 24 (((words1.drop 24).drop 24).drop 24), List.all_append, w_t4, ← List.take_append_drop 24 ((((words1.drop 24).drop 24).drop 24).drop 24), List.all_append, w_t5, ← List.take_append_drop 24 (((((words1.drop 24).drop 24).drop 24).drop 24).drop 24), List.all_append, w_t6, w_t7]
  rfl
set_option maxRecDepth 65536 in
theorem w_rest : rest_1_c.before args0 about1 = true := by decide +kernel
set_option maxRecDepth 65536 in
theorem w_case : (Jvm.Cond.and given_1 narrow_1).before args0 about1 = true := by decide +kernel
theorem w_applies : (headSpec (Jvm.Cond.code x code maxLocals ret :: tables_1) room_1).applies x e0.platform about1 = true :=
  (Spec.applies_iff w_frames).mpr ⟨w_running, w_runnable, w_alone, w_named, w_hears, w_ripe, w_room, w_tables⟩
theorem atStart : AtStart classFile x code maxLocals ret World_1 tables_1 room_1 Calls_1 rest_1 Pre_1 launch0 p0 e0 about1 theMethod args0 below0 :=
  ⟨lists_1, trivial, launch0.admits_env _ _ _, launch0.least_env, fairChoices_fair.cas, fairChoices_fair.clock, w_frames, w_args, w_heap, w_applies, trivial, w_rest, w_case⟩
end start1
theorem witness_1 : WitnessClaimed_1 := ⟨start1.p0, start1.e0, start1.about1, start1.theMethod, start1.args0, start1.below0, start1.atStart⟩
end Jvm.Pilot.@@N@@
