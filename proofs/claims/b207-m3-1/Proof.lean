import JvmDerived
import JvmDerived.Pilot.@@N@@Statement
import JvmDerived.Pilot.@@N@@Code
set_option linter.unusedVariables false
set_option linter.unusedSimpArgs false
namespace Jvm.Own
open Sem ClassFile Op Lib Jvm.Stand Jvm.Free Jvm.LawKit Jvm.RoadKit
/-- from the frame f over T the run ends in a return that Q speaks of -/
def Run (p : Program) (e : Env) (s : State) (below : List Frame) (Q : Option Value → Heap → List Loc → Prop) (cm sm : Nat) (T : State) (f : JFrame) : Prop :=
  ∃ s₂ o, Steps p.tables e below (T.setTop f) s₂ ∧ s₂.status = .running ∧ Ended s₂ below o ∧ ∃ v L, o = .returned v ∧ Q v s₂.heap L ∧ FrameEnd s o s₂ L cm sm
section Own
variable {p : Program} {l : Launch} {e : Env} {R : Room} {s : State} {m : MethodId} {args : Array Value} {below : List Frame} {meth : Method} {c : Code} {T : State} {locs : List Loc} {cells slots : Nat} {Q : Option Value → Heap → List Loc → Prop} {cm sm : Nat}
theorem go {T' : State} {f f' : JFrame} (st : ∀ target, Steps p.tables e below (T'.setTop f') target → Steps p.tables e below (T.setTop f) target) (k : Run p e s below Q cm sm T' f') : Run p e s below Q cm sm T f := by
  obtain ⟨s₂, o, h, r⟩ := k
  exact ⟨s₂, o, st _ h, r⟩
theorem retZ (X : Stand p l e R s m args below meth c T locs cells slots) (hx : p.tables.exec = Jvm.exec) {pc : Nat} {Ls : Array Slot} {z : Int32} {t : FieldType} {rest : List Value} (hret : meth.sig.returnType = some t) (ht : t = .boolean ∨ t = .byte ∨ t = .char ∨ t = .short)
    (hd : decode c.code pc = .ok (.ireturn, 1)) (hlk : meth.locks = false) (hc : cells ≤ cm) (hs : slots ≤ sm) (hq : Q (some (.int (nar t z))) T.heap locs) : Run p e s below Q cm sm T (mkF m pc Ls (.int z :: rest)) := by
  obtain ⟨fs, hr, hrun, hended, hW, hsame⟩ := X.leave (v := some (.int (nar t z))) (fun h => by rw [hret] at h; cases h) hlk
  exact ⟨_, _, retN X hx hret ht hd hr, hrun, hended, _, _, rfl, hq, ⟨_, rfl⟩, hW, hsame.mono hc hs⟩
theorem retW (X : Stand p l e R s m args below meth c T locs cells slots) (hx : p.tables.exec = Jvm.exec) {pc : Nat} {Ls : Array Slot} {w : Value} {t : FieldType} {i : Instr} {rest : List Value} (hret : meth.sig.returnType = some t) (hn : narrow t w = w)
    (hi : (i = .ireturn ∧ (t = .int ∨ t = .boolean ∨ t = .byte ∨ t = .char ∨ t = .short) ∧ ∃ z, w = .int z) ∨ (i = .lreturn ∧ t = .long ∧ ∃ z, w = .long z) ∨ (i = .dreturn ∧ t = .double ∧ ∃ z, w = .double z) ∨ (i = .freturn ∧ t = .float ∧ ∃ z, w = .float z) ∨ (i = .areturn ∧ t.isReference = true ∧ w.isRef = true))
    (hd : decode c.code pc = .ok (i, 1)) (hlk : meth.locks = false) (hc : cells ≤ cm) (hs : slots ≤ sm) (hq : Q (some w) T.heap locs) : Run p e s below Q cm sm T (mkF m pc Ls (w :: rest)) := by
  obtain ⟨fs, hr, hrun, hended, hW, hsame⟩ := X.leave (v := some w) (fun h => by rw [hret] at h; cases h) hlk
  exact ⟨_, _, retOut X hx hret hn hi hd hr, hrun, hended, _, _, rfl, hq, ⟨_, rfl⟩, hW, hsame.mono hc hs⟩
theorem retV (X : Stand p l e R s m args below meth c T locs cells slots) (hx : p.tables.exec = Jvm.exec) {pc : Nat} {Ls : Array Slot} (hret : meth.sig.returnType = none)
    (hd : decode c.code pc = .ok (.return_, 1)) (hlk : meth.locks = false) (hc : cells ≤ cm) (hs : slots ≤ sm) (hq : Q none T.heap locs) : Run p e s below Q cm sm T (mkF m pc Ls []) := by
  obtain ⟨fs, hr, hrun, hended, hW, hsame⟩ := X.leave (v := none) (fun _ => rfl) hlk
  exact ⟨_, _, X.returnOut hx hret hd hr, hrun, hended, _, _, rfl, hq, ⟨_, rfl⟩, hW, hsame.mono hc hs⟩
/-- the same, where Strings may have been interned -/
def RunW (p : Program) (e : Env) (s : State) (below : List Frame) (Q : Option Value → Heap → List Loc → Prop) (cm sm : Nat) (T : State) (f : JFrame) : Prop :=
  ∃ s₂ o, Steps p.tables e below (T.setTop f) s₂ ∧ s₂.status = .running ∧ Ended s₂ below o ∧ ∃ v L, o = .returned v ∧ Q v s₂.heap L ∧ ReturnedEndW s o s₂ L cm sm
theorem goW {T' : State} {f f' : JFrame} (st : ∀ target, Steps p.tables e below (T'.setTop f') target → Steps p.tables e below (T.setTop f) target) (k : RunW p e s below Q cm sm T' f') : RunW p e s below Q cm sm T f := by
  obtain ⟨s₂, o, h, r⟩ := k
  exact ⟨s₂, o, st _ h, r⟩
theorem retZW {vm₁ : Vm} (X : Stand p l e R (s.setVm vm₁) m args below meth c T locs cells slots) {n : Nat} (hS : s.Since vm₁ n) (hn : n ≤ T.heap.size) (hx : p.tables.exec = Jvm.exec) {pc : Nat} {Ls : Array Slot} {z : Int32} {t : FieldType} {rest : List Value} (hret : meth.sig.returnType = some t) (ht : t = .boolean ∨ t = .byte ∨ t = .char ∨ t = .short)
    (hd : decode c.code pc = .ok (.ireturn, 1)) (hlk : meth.locks = false) (hc : cells ≤ cm) (hs : slots ≤ sm) (hq : Q (some (.int (nar t z))) T.heap locs) : RunW p e s below Q cm sm T (mkF m pc Ls (.int z :: rest)) := by
  obtain ⟨fs, hr, hrun, hended, h1, h2, h3, h4⟩ := X.leaveW hS hn (v := some (.int (nar t z))) (fun h => by rw [hret] at h; cases h) hlk
  exact ⟨_, _, retN X hx hret ht hd hr, hrun, hended, _, _, rfl, hq, h1, h2, h3, h4.mono hc hs⟩
theorem retWW {vm₁ : Vm} (X : Stand p l e R (s.setVm vm₁) m args below meth c T locs cells slots) {n : Nat} (hS : s.Since vm₁ n) (hn : n ≤ T.heap.size) (hx : p.tables.exec = Jvm.exec) {pc : Nat} {Ls : Array Slot} {w : Value} {t : FieldType} {i : Instr} {rest : List Value} (hret : meth.sig.returnType = some t) (hn' : narrow t w = w)
    (hi : (i = .ireturn ∧ (t = .int ∨ t = .boolean ∨ t = .byte ∨ t = .char ∨ t = .short) ∧ ∃ z, w = .int z) ∨ (i = .lreturn ∧ t = .long ∧ ∃ z, w = .long z) ∨ (i = .dreturn ∧ t = .double ∧ ∃ z, w = .double z) ∨ (i = .freturn ∧ t = .float ∧ ∃ z, w = .float z) ∨ (i = .areturn ∧ t.isReference = true ∧ w.isRef = true))
    (hd : decode c.code pc = .ok (i, 1)) (hlk : meth.locks = false) (hc : cells ≤ cm) (hs : slots ≤ sm) (hq : Q (some w) T.heap locs) : RunW p e s below Q cm sm T (mkF m pc Ls (w :: rest)) := by
  obtain ⟨fs, hr, hrun, hended, h1, h2, h3, h4⟩ := X.leaveW hS hn (v := some w) (fun h => by rw [hret] at h; cases h) hlk
  exact ⟨_, _, retOut X hx hret hn' hi hd hr, hrun, hended, _, _, rfl, hq, h1, h2, h3, h4.mono hc hs⟩
theorem retVW {vm₁ : Vm} (X : Stand p l e R (s.setVm vm₁) m args below meth c T locs cells slots) {n : Nat} (hS : s.Since vm₁ n) (hn : n ≤ T.heap.size) (hx : p.tables.exec = Jvm.exec) {pc : Nat} {Ls : Array Slot} (hret : meth.sig.returnType = none)
    (hd : decode c.code pc = .ok (.return_, 1)) (hlk : meth.locks = false) (hc : cells ≤ cm) (hs : slots ≤ sm) (hq : Q none T.heap locs) : RunW p e s below Q cm sm T (mkF m pc Ls []) := by
  obtain ⟨fs, hr, hrun, hended, h1, h2, h3, h4⟩ := X.leaveW hS hn (v := none) (fun _ => rfl) hlk
  exact ⟨_, _, X.returnOut hx hret hd hr, hrun, hended, _, _, rfl, hq, h1, h2, h3, h4.mono hc hs⟩
end Own
section Heap
variable {Z : State} {h h' h0 : Heap} {a b : Addr} {ty : FieldType} {vs : List Value} {ws ws' : List Addr} {v : Value} {k : ClassId} {z j : Int32}
/-- an array and all that it holds -/
def Ary (Z : State) (h : Heap) (a : Addr) (ty : FieldType) (vs : List Value) : Prop := ∃ c : Cell, Arr Z h a c ty ∧ c.slots.toList = vs ∧ vs.length < 2147483648 ∧ ∀ v ∈ vs, fits ty v = true
theorem Ary.lt (A : Ary Z h a ty vs) : a < h.size := by obtain ⟨c, A, -⟩ := A; exact A.lt
theorem Ary.ext (A : Ary Z h a ty vs) (E : Ext h h') : Ary Z h' a ty vs := by obtain ⟨c, A, r⟩ := A; exact ⟨c, A.ext E, r⟩
theorem Ary.keep (A : Ary Z h a ty vs) (K : Keep h h' ws) (q : a ∉ ws) : Ary Z h' a ty vs := by obtain ⟨c, A, r⟩ := A; exact ⟨c, ⟨K.2.1 a c A.1 q, A.2⟩, r⟩
theorem Ary.set (A : Ary Z h a ty vs) {i : Nat} (W : Wr h h' a i v) (hv : fits ty v = true) : Ary Z h' a ty (vs.set i v) := by
  obtain ⟨c, A, e, l, f⟩ := A
  refine ⟨_, A.same W, by simp [Cell.setSlot, e], by simpa using l, fun w hw => ?_⟩
  rcases List.mem_or_eq_of_mem_set hw with q | rfl
  · exact f w q
  · exact hv
theorem Ary.ld (A : Ary Z h a ty vs) (hj : ¬ j < 0) (hv : vs[j.toNatClampNeg]? = some v) : ∃ c : Cell, Arr Z h a c ty ∧ ¬ (j < 0 ∨ c.slots.size ≤ j.toNatClampNeg) ∧ c.slots[j.toNatClampNeg]? = some v := by
  obtain ⟨c, A, e, l, f⟩ := A
  have q : c.slots[j.toNatClampNeg]? = some v := by rw [← Array.getElem?_toList, e]; exact hv
  exact ⟨c, A, fun r => r.elim hj fun y => absurd (Array.getElem?_eq_some_iff.mp q).1 (Nat.not_lt.mpr y), q⟩
theorem Ary.st (A : Ary Z h a ty vs) (hj : ¬ j < 0) (hl : j.toNatClampNeg < vs.length) : ∃ c : Cell, Arr Z h a c ty ∧ ¬ (j < 0 ∨ c.slots.size ≤ j.toNatClampNeg) := by
  obtain ⟨c, A, e, l, f⟩ := A
  refine ⟨c, A, fun r => r.elim hj fun y => ?_⟩
  rw [← e, Array.length_toList] at hl
  omega
theorem Ary.len (A : Ary Z h a ty vs) : ∃ c : Cell, Arr Z h a c ty ∧ c.slots.size.toInt32 = vs.length.toInt32 := by
  obtain ⟨c, A, e, l, f⟩ := A
  exact ⟨c, A, by rw [← e, Array.length_toList]⟩
theorem Ary.new (A : Arr Z h a (newA k ty z) ty) : Ary Z h a ty (List.replicate z.toNatClampNeg (defaultValue ty)) := by
  refine ⟨_, A, by simp [newA], ?_, fun v hv => ?_⟩
  · rw [List.length_replicate]
    have := Int32.toInt_lt z
    simp only [Int32.toNatClampNeg]
    omega
  · rw [List.eq_of_mem_replicate hv]
    cases ty <;> rfl
theorem Ary.fit (A : Ary Z h a ty vs) : ∃ c : Cell, Arr Z h a c ty ∧ FitC Z c ∧ c.slots.toList = vs ∧ c.slots.size = vs.length ∧ ∀ (h' : Heap) (b : Addr), Arr Z h' b (cloneOf c) ty → Ary Z h' b ty vs := by
  obtain ⟨c, A, e, l, f⟩ := A
  refine ⟨c, A, fitC_of A fun i hi v hv => ?_, e, by rw [← e, Array.length_toList], fun _ _ B => ⟨_, B, e, l, f⟩⟩
  refine f v ?_
  rw [← e]
  exact List.mem_of_getElem? (by rw [Array.getElem?_toList]; exact hv)
theorem ldI {p : Program} {l : Launch} {e : Env} {R : Room} {s : State} {m : MethodId} {args : Array Value} {below : List Frame} {meth : Method} {c : Code} {T : State} {locs : List Loc} {cells slots : Nat} (X : Stand p l e R s m args below meth c T locs cells slots) (hx : p.tables.exec = Jvm.exec) (hZ : Z.Warmed39 s.vm) (eT : T.heap = h) (A : Ary Z h a .int vs) (hj : ¬ j < 0) (hv : vs[j.toNatClampNeg]? = some v) {g : JFrame} (hg : g.method = m) {rest : List Value} (hs : g.stack = .int j :: .ref a :: rest) (hd : decode c.code g.pc = .ok (.iaload, 1)) (target : State)
    (hr : Steps p.tables e below (T.setTop { g with pc := g.pc + 1, stack := v :: rest }) target) : Steps p.tables e below (T.setTop g) target := by
  obtain ⟨cl, Ar, hin, hat⟩ := A.ld hj hv
  exact X.iaload hx (by rw [eT]; exact Ar.1) (State.isArrayOf_alike hZ.alike Ar.2.1) Ar.2.2 hin hat hg hs hd target hr
theorem ldJ {p : Program} {l : Launch} {e : Env} {R : Room} {s : State} {m : MethodId} {args : Array Value} {below : List Frame} {meth : Method} {c : Code} {T : State} {locs : List Loc} {cells slots : Nat} (X : Stand p l e R s m args below meth c T locs cells slots) (hx : p.tables.exec = Jvm.exec) (hZ : Z.Warmed39 s.vm) (eT : T.heap = h) (A : Ary Z h a .long vs) (hj : ¬ j < 0) (hv : vs[j.toNatClampNeg]? = some v) {g : JFrame} (hg : g.method = m) {rest : List Value} (hs : g.stack = .int j :: .ref a :: rest) (hd : decode c.code g.pc = .ok (.laload, 1)) (target : State)
    (hr : Steps p.tables e below (T.setTop { g with pc := g.pc + 1, stack := v :: rest }) target) : Steps p.tables e below (T.setTop g) target := by
  obtain ⟨cl, Ar, hin, hat⟩ := A.ld hj hv
  exact X.laload hx (by rw [eT]; exact Ar.1) (State.isArrayOf_alike hZ.alike Ar.2.1) Ar.2.2 hin hat hg hs hd target hr
theorem ldC {p : Program} {l : Launch} {e : Env} {R : Room} {s : State} {m : MethodId} {args : Array Value} {below : List Frame} {meth : Method} {c : Code} {T : State} {locs : List Loc} {cells slots : Nat} (X : Stand p l e R s m args below meth c T locs cells slots) (hx : p.tables.exec = Jvm.exec) (hZ : Z.Warmed39 s.vm) (eT : T.heap = h) (A : Ary Z h a .char vs) (hj : ¬ j < 0) (hv : vs[j.toNatClampNeg]? = some v) {g : JFrame} (hg : g.method = m) {rest : List Value} (hs : g.stack = .int j :: .ref a :: rest) (hd : decode c.code g.pc = .ok (.caload, 1)) (target : State)
    (hr : Steps p.tables e below (T.setTop { g with pc := g.pc + 1, stack := v :: rest }) target) : Steps p.tables e below (T.setTop g) target := by
  obtain ⟨cl, Ar, hin, hat⟩ := A.ld hj hv
  exact X.caload hx (by rw [eT]; exact Ar.1) (State.isArrayOf_alike hZ.alike Ar.2.1) Ar.2.2 hin hat hg hs hd target hr
theorem ldB {p : Program} {l : Launch} {e : Env} {R : Room} {s : State} {m : MethodId} {args : Array Value} {below : List Frame} {meth : Method} {c : Code} {T : State} {locs : List Loc} {cells slots : Nat} (X : Stand p l e R s m args below meth c T locs cells slots) (hx : p.tables.exec = Jvm.exec) (hZ : Z.Warmed39 s.vm) (eT : T.heap = h) (A : Ary Z h a .byte vs) (hj : ¬ j < 0) (hv : vs[j.toNatClampNeg]? = some v) {g : JFrame} (hg : g.method = m) {rest : List Value} (hs : g.stack = .int j :: .ref a :: rest) (hd : decode c.code g.pc = .ok (.baload, 1)) (target : State)
    (hr : Steps p.tables e below (T.setTop { g with pc := g.pc + 1, stack := v :: rest }) target) : Steps p.tables e below (T.setTop g) target := by
  obtain ⟨cl, Ar, hin, hat⟩ := A.ld hj hv
  exact X.baloadBytes hx (by rw [eT]; exact Ar.1) (State.isArrayOf_alike hZ.alike Ar.2.1) Ar.2.2 hin hat hg hs hd target hr
theorem ldZ {p : Program} {l : Launch} {e : Env} {R : Room} {s : State} {m : MethodId} {args : Array Value} {below : List Frame} {meth : Method} {c : Code} {T : State} {locs : List Loc} {cells slots : Nat} (X : Stand p l e R s m args below meth c T locs cells slots) (hx : p.tables.exec = Jvm.exec) (hZ : Z.Warmed39 s.vm) (eT : T.heap = h) (A : Ary Z h a .boolean vs) (hj : ¬ j < 0) (hv : vs[j.toNatClampNeg]? = some v) {g : JFrame} (hg : g.method = m) {rest : List Value} (hs : g.stack = .int j :: .ref a :: rest) (hd : decode c.code g.pc = .ok (.baload, 1)) (target : State)
    (hr : Steps p.tables e below (T.setTop { g with pc := g.pc + 1, stack := v :: rest }) target) : Steps p.tables e below (T.setTop g) target := by
  obtain ⟨cl, Ar, hin, hat⟩ := A.ld hj hv
  exact X.baloadBooleans hx (by rw [eT]; exact Ar.1) (State.isArrayOf_alike hZ.alike Ar.2.1) Ar.2.2 hin hat hg hs hd target hr
theorem ldD {p : Program} {l : Launch} {e : Env} {R : Room} {s : State} {m : MethodId} {args : Array Value} {below : List Frame} {meth : Method} {c : Code} {T : State} {locs : List Loc} {cells slots : Nat} (X : Stand p l e R s m args below meth c T locs cells slots) (hx : p.tables.exec = Jvm.exec) (hZ : Z.Warmed39 s.vm) (eT : T.heap = h) (A : Ary Z h a .double vs) (hj : ¬ j < 0) (hv : vs[j.toNatClampNeg]? = some v) {g : JFrame} (hg : g.method = m) {rest : List Value} (hs : g.stack = .int j :: .ref a :: rest) (hd : decode c.code g.pc = .ok (.daload, 1)) (target : State)
    (hr : Steps p.tables e below (T.setTop { g with pc := g.pc + 1, stack := v :: rest }) target) : Steps p.tables e below (T.setTop g) target := by
  obtain ⟨cl, Ar, hin, hat⟩ := A.ld hj hv
  exact X.daload hx (by rw [eT]; exact Ar.1) (State.isArrayOf_alike hZ.alike Ar.2.1) Ar.2.2 hin hat hg hs hd target hr
theorem ldR {p : Program} {l : Launch} {e : Env} {R : Room} {s : State} {m : MethodId} {args : Array Value} {below : List Frame} {meth : Method} {c : Code} {T : State} {locs : List Loc} {cells slots : Nat} (X : Stand p l e R s m args below meth c T locs cells slots) (hx : p.tables.exec = Jvm.exec) (hZ : Z.Warmed39 s.vm) (eT : T.heap = h) (A : Ary Z h a ty vs) (ht : ty.isReference = true) (hj : ¬ j < 0) (hv : vs[j.toNatClampNeg]? = some v) {g : JFrame} (hg : g.method = m) {rest : List Value} (hs : g.stack = .int j :: .ref a :: rest) (hd : decode c.code g.pc = .ok (.aaload, 1)) (target : State)
    (hr : Steps p.tables e below (T.setTop { g with pc := g.pc + 1, stack := v :: rest }) target) : Steps p.tables e below (T.setTop g) target := by
  obtain ⟨cl, Ar, hin, hat⟩ := A.ld hj hv
  exact X.aaload hx (by rw [eT]; exact Ar.1) (State.isArrayOf_alike hZ.alike Ar.2.1) ht Ar.2.2 hin hat hg hs hd target hr
theorem alen {p : Program} {l : Launch} {e : Env} {R : Room} {s : State} {m : MethodId} {args : Array Value} {below : List Frame} {meth : Method} {c : Code} {T : State} {locs : List Loc} {cells slots : Nat} (X : Stand p l e R s m args below meth c T locs cells slots) (hx : p.tables.exec = Jvm.exec) (hZ : Z.Warmed39 s.vm) (eT : T.heap = h) (A : Ary Z h a ty vs) (hn : vs.length.toInt32 = z) {g : JFrame} (hg : g.method = m) {rest : List Value} (hs : g.stack = .ref a :: rest) (hd : decode c.code g.pc = .ok (.arraylength, 1)) (target : State)
    (hr : Steps p.tables e below (T.setTop { g with pc := g.pc + 1, stack := .int z :: rest }) target) : Steps p.tables e below (T.setTop g) target := by
  obtain ⟨cl, Ar, ln⟩ := A.len
  exact X.arraylength hx (by rw [eT]; exact Ar.1) (State.isArrayOf_alike hZ.alike Ar.2.1) hg hs hd target (by rw [ln.trans hn]; exact hr)
theorem getI {xs : List Int32} {i : Nat} (q : i < xs.length) : (xs.map Value.int)[i]? = some (.int (xs.getD i 0)) := by
  simp [List.getElem?_map, List.getD_eq_getElem?_getD, List.getElem?_eq_getElem q]
theorem setI {xs : List Int32} {i : Nat} {x : Int32} : (xs.map Value.int).set i (.int x) = (xs.set i x).map Value.int := List.map_set.symm
/-- an array made over the class C -/
def OvA (Z : State) (h : Heap) (a : Addr) (C : String) : Prop := ∃ c : Cell, h[a]? = some c ∧ Ovr Z c.cls C
theorem OvA.keep {C : String} (O : OvA Z h a C) (K : Keep h h' ws) : OvA Z h' a C := by
  obtain ⟨c, e, o⟩ := O
  obtain ⟨c', q, r1, -, -⟩ := K.2.2 a c e
  exact ⟨c', q, r1 ▸ o⟩
theorem stA {C : String} {y : Addr} (O : OvA Z h a C) (A : Ary Z h a ty vs) (I : Ins Z h y C true) : Sto Z h a (.ref y) := by
  obtain ⟨c, A, -⟩ := A
  obtain ⟨c', e, o⟩ := O
  cases A.1.symm.trans e
  exact Sto.of A o I
theorem eqi_v {args : Array Value} {first s : State} {o : Option Outcome} {idx : List Nat} {t : Term} {k : Int32} (q : (Cond.eq t (.int k)).value args first o s idx = some true) : t.eval args first o idx s = some (.int k) := by
  simp only [Cond.value, Term.eval] at q
  cases ht : t.eval args first o idx s with
  | none => simp [ht] at q
  | some x => cases x <;> simp [ht] at q ⊢; exact q
theorem ary_start {args : Array Value} {s : State} {t : Term} {ty : FieldType} {a : Addr} {n : Int32} {vs : List Value} (hf : Fit s) (ev : t.eval args s none [] s = some (.ref a)) (ha : (Cond.arrayOf t ty).value args s none s [] = some true) (hl : (Cond.eq (.length t) (.int n)).value args s none s [] = some true) (hn : n = vs.length.toInt32) (hs : vs.length < 2147483648)
    (he : ∀ i, i < vs.length → (Term.elem t (.int i.toInt32)).eval args s none [] s = vs[i]?) : Ary s s.heap a ty vs := by
  obtain ⟨cl, A⟩ := Arr.start ev ha
  have hA := A.fin (Vm.Alike.refl _)
  have e1 := eqi_v hl
  have hsz : cl.slots.size < 2147483648 := by
    refine Nat.lt_of_not_le fun q => ?_
    have : ¬ cl.slots.size < 2 ^ 31 := by omega
    simp [Term.eval, ev, hA, this] at e1
  have e2 := len_f (idx := []) ev hA (by omega)
  rw [e1] at e2
  have e3 : n = cl.slots.size.toInt32 := by simpa using e2
  have e4 : cl.slots.size = vs.length := by
    have q := hn.symm.trans e3
    have q1 : vs.length.toInt32.toInt = vs.length := len_toInt (by omega)
    have q2 : cl.slots.size.toInt32.toInt = cl.slots.size := len_toInt (by omega)
    rw [q, q2] at q1
    omega
  have e5 : ∀ i, i < vs.length → cl.slots[i]? = vs[i]? := fun i hi => by
    have q := he i hi
    rw [List.getElem?_eq_getElem hi] at q
    have r := (elem_in q ev (Term.int_eval _) A.1).2
    have e : i.toInt32.toNatClampNeg = i := by simp only [Int32.toNatClampNeg, len_toInt (show i < 2 ^ 31 by omega)]; rfl
    rw [e] at r
    rw [r, List.getElem?_eq_getElem hi]
  refine ⟨cl, A, ?_, hs, fun v hv => ?_⟩
  · refine List.ext_getElem? fun i => ?_
    rw [Array.getElem?_toList]
    by_cases hi : i < vs.length
    · exact e5 i hi
    · rw [Array.getElem?_eq_none (by omega), List.getElem?_eq_none (by omega)]
  · obtain ⟨i, hi, rfl⟩ := List.getElem_of_mem hv
    have r := e5 i hi
    rw [List.getElem?_eq_getElem hi] at r
    have e : i.toInt32.toNatClampNeg = i := by simp only [Int32.toNatClampNeg, len_toInt (show i < 2 ^ 31 by omega)]; rfl
    exact elem_fits (j := i.toInt32) hf A (idx_in (by omega) (by omega)) (by rw [e]; exact r)
theorem nin1 {x y : Addr} (q : x ≠ y) : x ∉ [y] := ninS q nin0
theorem Arv.ary {dv : Value} (F : Arv Z h a k ty z vs dv) (hl : z.toNatClampNeg = vs.length) : Ary Z h a ty vs := by
  obtain ⟨c, A, -, S, hz, H, G⟩ := F
  have hs : c.slots.size = vs.length := S.trans hl
  have hb := (back32 hz).2
  refine ⟨c, A, List.ext_getElem? fun i => ?_, by omega, fun v hv => ?_⟩
  · rw [Array.getElem?_toList]
    by_cases hi : i < vs.length
    · rw [H i (by omega), List.getD_eq_getElem?_getD, List.getElem?_eq_getElem hi]
      rfl
    · rw [Array.getElem?_eq_none (by omega), List.getElem?_eq_none (by omega)]
  · obtain ⟨i, hi, rfl⟩ := List.getElem_of_mem hv
    have := G i (by omega)
    rw [List.getD_eq_getElem?_getD, List.getElem?_eq_getElem hi] at this
    exact this
end Heap
section Held
variable {p : Program} {l : Launch} {e : Env} {R : Room} {s : State} {m : MethodId} {args : Array Value} {below : List Frame} {meth : Method} {c : Code} {T : State} {locs : List Loc} {cells slots : Nat} {Q : Option Value → Heap → List Loc → Prop} {cm sm : Nat} {Z : State} {EL : List (String × Nat)} {h h0 : Heap} {aw : Array Value}
/-- a run that may intern, and keeps what is held of the constants EL -/
def RunH (Z : State) (EL : List (String × Nat)) (p : Program) (e : Env) (s : State) (below : List Frame) (Q : Option Value → Heap → List Loc → Prop) (cm sm : Nat) (T : State) (f : JFrame) : Prop :=
  ∃ s₂ o, Steps p.tables e below (T.setTop f) s₂ ∧ s₂.status = .running ∧ Ended s₂ below o ∧ ∃ v L, o = .returned v ∧ Q v s₂.heap L ∧ CHr Z EL s.vm s.heap s₂.vm s₂.heap ∧ ReturnedEndW s o s₂ L cm sm
theorem goH {T' : State} {f f' : JFrame} (st : ∀ target, Steps p.tables e below (T'.setTop f') target → Steps p.tables e below (T.setTop f) target) (k : RunH Z EL p e s below Q cm sm T' f') : RunH Z EL p e s below Q cm sm T f := by
  obtain ⟨s₂, o, h, r⟩ := k
  exact ⟨s₂, o, st _ h, r⟩
theorem retZH {vm₁ : Vm} (X : Stand p l e R (s.setVm vm₁) m args below meth c T locs cells slots) {n : Nat} (hS : s.Since vm₁ n) (hn : n ≤ T.heap.size) (hh : s.heap = h0) (eT : T.heap = h) (C : CHr Z EL s.vm h0 vm₁ h) (hEL : EW Z aw EL) (hZ : Z.Warmed39 vm₁) (hx : p.tables.exec = Jvm.exec) {pc : Nat} {Ls : Array Slot} {z : Int32} {t : FieldType} {rest : List Value} (hret : meth.sig.returnType = some t) (ht : t = .boolean ∨ t = .byte ∨ t = .char ∨ t = .short)
    (hd : decode c.code pc = .ok (.ireturn, 1)) (hlk : meth.locks = false) (hc : cells ≤ cm) (hs : slots ≤ sm) (hq : Q (some (.int (nar t z))) T.heap locs) : RunH Z EL p e s below Q cm sm T (mkF m pc Ls (.int z :: rest)) := by
  obtain ⟨fs, hr, hrun, hended, h1, h2, h3, h4⟩ := X.leaveW hS hn (v := some (.int (nar t z))) (fun h => by rw [hret] at h; cases h) hlk
  have C' := C.trans (CHv.at X hZ hEL C.1)
  subst hh eT
  exact ⟨_, _, retN X hx hret ht hd hr, hrun, hended, _, _, rfl, hq, C', h1, h2, h3, h4.mono hc hs⟩
theorem retWH {vm₁ : Vm} (X : Stand p l e R (s.setVm vm₁) m args below meth c T locs cells slots) {n : Nat} (hS : s.Since vm₁ n) (hn : n ≤ T.heap.size) (hh : s.heap = h0) (eT : T.heap = h) (C : CHr Z EL s.vm h0 vm₁ h) (hEL : EW Z aw EL) (hZ : Z.Warmed39 vm₁) (hx : p.tables.exec = Jvm.exec) {pc : Nat} {Ls : Array Slot} {w : Value} {t : FieldType} {i : Instr} {rest : List Value} (hret : meth.sig.returnType = some t) (hn' : narrow t w = w)
    (hi : (i = .ireturn ∧ (t = .int ∨ t = .boolean ∨ t = .byte ∨ t = .char ∨ t = .short) ∧ ∃ z, w = .int z) ∨ (i = .lreturn ∧ t = .long ∧ ∃ z, w = .long z) ∨ (i = .dreturn ∧ t = .double ∧ ∃ z, w = .double z) ∨ (i = .freturn ∧ t = .float ∧ ∃ z, w = .float z) ∨ (i = .areturn ∧ t.isReference = true ∧ w.isRef = true))
    (hd : decode c.code pc = .ok (i, 1)) (hlk : meth.locks = false) (hc : cells ≤ cm) (hs : slots ≤ sm) (hq : Q (some w) T.heap locs) : RunH Z EL p e s below Q cm sm T (mkF m pc Ls (w :: rest)) := by
  obtain ⟨fs, hr, hrun, hended, h1, h2, h3, h4⟩ := X.leaveW hS hn (v := some w) (fun h => by rw [hret] at h; cases h) hlk
  have C' := C.trans (CHv.at X hZ hEL C.1)
  subst hh eT
  exact ⟨_, _, retOut X hx hret hn' hi hd hr, hrun, hended, _, _, rfl, hq, C', h1, h2, h3, h4.mono hc hs⟩
theorem selP {s : State} {args : Array Value} {y : MethodName} {n : Nat} (wi : (Cond.instantiable y.cls n).before args s = true) (hpriv : s.PrivateAt y) (hinst : (Cond.instanceMethod y).before args s = true) (hy : y.cls ≠ "java/lang/invoke/MethodHandle" ∧ y.cls ≠ "java/lang/invoke/VarHandle") : (Cond.selects y.cls y y).before args s = true := by
  have w := wi
  obtain ⟨c, k, h1, h2, -⟩ := Cond.instantiable_spec wi
  refine selects_self_of_private h1 h2 ?_ hpriv hinst hy
  simp [Cond.before, Cond.holds, Cond.value, h1, h2] at w
  exact w.1.1.2.1
end Held
section NoIns
variable {Z : State} {a0 : Array Value} {O C S K : String} {n : Nat}
theorem NS.rootI (w : (Cond.noSuperclass O).before a0 Z = true) (wk : (Cond.instantiable K n).before a0 Z = true) (hn : O ≠ K) : NS Z O K := by
  obtain ⟨c, k, h1, h2, h3, -, -⟩ := Cond.noSuperclass_spec w
  obtain ⟨t, kt, g1, -⟩ := Cond.instantiable_spec wk
  have ne := ids_ne h1 g1 hn
  refine ⟨c, t, h1, g1, fun fuel => ?_⟩
  cases fuel with
  | zero => rfl
  | succ f => simp [Vm.isSubclassAux, ne, h2, h3]
theorem NS.noI (w : (Cond.superclass C S).before a0 Z = true) (wk : (Cond.instantiable K n).before a0 Z = true) (q : NS Z C K) (hn : C ≠ K) : ∃ c t, Z.vm.findClass C = some c ∧ Z.vm.findClass K = some t ∧ Z.vm.assignable c t = false := by
  obtain ⟨c, t, h0, g0, n3⟩ := q
  obtain ⟨p, k, kp, h1, h2, h3, h4, h5, -, h7⟩ := Cond.superclass_spec h0 w
  obtain ⟨t', k', g1, g2, g5, g7, -⟩ := Cond.instantiable_spec wk
  cases g0.symm.trans g1
  have ne := ids_ne h0 g0 hn
  simp only [Bool.or_eq_false_iff] at g7
  refine ⟨c, t, h0, g0, ?_⟩
  show Z.vm.assignableAux (255 + 1) c t = false
  simp [Vm.assignableAux, ne, h2, g2, h5, g5, g7.1, Vm.isSubclass, n3]
end NoIns
end Jvm.Own
namespace Jvm.OwnF
open Jvm.FP.Core
theorem own_ratio {n d : Int} {s t : Bool} {c c' : Nat} {q q' : Int} (hx : Whole n (.fin s c q)) (hy : Whole d (.fin t c' q')) :
    c * d.natAbs * 2 ^ (q - q' - 0).toNat = n.natAbs * c' * 2 ^ (0 - (q - q')).toNat := by
  have h1 := whole_natAbs hx
  have h2 := whole_natAbs hy
  generalize n.natAbs = N at *
  generalize d.natAbs = D at *
  refine Nat.eq_of_mul_eq_mul_right (Nat.mul_pos (Nat.two_pow_pos (-q).toNat) (Nat.two_pow_pos q'.toNat)) ?_
  have hx : (q - q' - 0).toNat + ((-q).toNat + q'.toNat) = (0 - (q - q')).toNat + (q.toNat + (-q').toNat) := by omega
  calc c * D * 2 ^ (q - q' - 0).toNat * (2 ^ (-q).toNat * 2 ^ q'.toNat)
      = c * D * 2 ^ ((q - q' - 0).toNat + ((-q).toNat + q'.toNat)) := by rw [Nat.pow_add, Nat.pow_add]; ac_rfl
    _ = (c * 2 ^ q.toNat) * (D * 2 ^ (-q').toNat) * 2 ^ (0 - (q - q')).toNat := by rw [hx, Nat.pow_add, Nat.pow_add]; ac_rfl
    _ = (N * 2 ^ (-q).toNat) * (c' * 2 ^ q'.toNat) * 2 ^ (0 - (q - q')).toNat := by rw [h1, h2]
    _ = N * c' * 2 ^ (0 - (q - q')).toNat * (2 ^ (-q).toNat * 2 ^ q'.toNat) := by ac_rfl
/-- the quotient of two whole numbers that are not negative -/
theorem own_div {n d : Int32} (h0 : 0 ≤ n.toInt) (h1 : 1 ≤ d.toInt) : val64 (ddiv (i2d n) (i2d d)) = roundRatio b64 false n.toInt.natAbs d.toInt.natAbs 0 := by
  have wn := i2d_int n
  have wd := i2d_int d
  obtain ⟨c, q, e⟩ := l2d_shape n.toInt64
  obtain ⟨c', q', e'⟩ := l2d_shape d.toInt64
  rw [← i2d_l2d] at e e'
  have q1 : n.toInt64.toInt = n.toInt := Int32.toInt_toInt64 n
  have q2 : d.toInt64.toInt = d.toInt := Int32.toInt_toInt64 d
  have s1 : decide (n.toInt64.toInt < 0) = false := by rw [q1]; simpa using h0
  have s2 : decide (d.toInt64.toInt < 0) = false := by rw [q2]; simp; omega
  rw [s1] at e
  rw [s2] at e'
  unfold DInt at wn wd
  rw [e] at wn
  rw [e'] at wd
  have hc' : c' ≠ 0 := fun z => by have := (whole_zero wd).mp z; omega
  rw [val64_ddiv, e, e']
  show (if c' = 0 then _ else roundRatio b64 (false != false) c c' (q - q')) = _
  rw [if_neg hc']
  exact roundRatio_congr (by omega) (by omega) (own_ratio wn wd)
theorem own_zone : zval b64 (val64 4607182418800017408) = ((2 ^ 1074 : Nat) : Int) := by decide +kernel
theorem own_val1 : val64 4607182418800017408 = .fin false (2 ^ 52) (-52) := by decide +kernel
theorem own_nn {x : UInt64} {A B : Nat} {e : Int} (h : val64 x = roundRatio b64 false A B e) : val64 x ≠ .nan := by
  rw [h]; exact roundRatio_ne_nan _ _ _ _ _
theorem own_q0 {n d : Int32} (h0 : n = 0) (h1 : 1 ≤ d.toInt) : ddiv (i2d n) (i2d d) = 0 := by
  have h := own_div (n := n) (d := d) (by rw [h0]; decide) h1
  refine val64_inj (own_nn h) ?_
  rw [h, val64_zero, h0]
  rfl
theorem own_q1 {n d : Int32} (h0 : n = d) (h1 : 1 ≤ d.toInt) : ddiv (i2d n) (i2d d) = 4607182418800017408 := by
  have h := own_div (n := n) (d := d) (by rw [h0]; omega) h1
  refine val64_inj (own_nn h) ?_
  rw [h, own_val1, h0]
  refine roundRatio_exact good_b64 (by omega) (by unfold FP.Core.fits; decide +kernel) ?_
  show d.toInt.natAbs * 2 ^ 52 = 2 ^ 52 * d.toInt.natAbs * 2 ^ 0
  omega
theorem own_qm {n d : Int32} (h0 : 1 ≤ n.toInt) (h1 : n.toInt < d.toInt) (h2 : d.toInt ≤ 1000) : dcmp (ddiv (i2d n) (i2d d)) 0 = some .gt ∧ dcmp (ddiv (i2d n) (i2d d)) 4607182418800017408 = some .lt := by
  have h := own_div (n := n) (d := d) (by omega) (by omega)
  generalize ddiv (i2d n) (i2d d) = x at *
  have hn := own_nn h
  have hz : zval b64 (val64 x) = ((zmag b64 (roundRatio b64 false n.toInt.natAbs d.toInt.natAbs 0) : Nat) : Int) := by
    rw [h]; unfold zval; rw [sgn_roundRatio]; rfl
  have hN : 1 ≤ n.toInt.natAbs := by omega
  have hD : n.toInt.natAbs + 1 ≤ d.toInt.natAbs := by omega
  have hM : d.toInt.natAbs ≤ 1000 := by omega
  generalize n.toInt.natAbs = N at *
  generalize d.toInt.natAbs = D at *
  have hle := zmag_roundRatio_le good_b64 (s := false) (A := N) (B := D) (e := 0) (e0 := b64.qmin) (V := .fin false (2 ^ 53 - 1) (-53)) (by omega) (by unfold FP.Core.fits; decide +kernel) Datum.noConfusion (Int.le_refl _) (by decide +kernel) (by
    have e1 : zmag b64 (.fin false (2 ^ 53 - 1) (-53)) = (2 ^ 53 - 1) * 2 ^ 1021 := by decide +kernel
    have e2 : (b64.qmin - b64.qmin).toNat = 0 := by decide +kernel
    have e3 : inUnits N 0 b64.qmin = N * 2 ^ 53 * 2 ^ 1021 := by
      show N * 2 ^ 1074 = _
      rw [Nat.mul_assoc, ← Nat.pow_add]
    rw [e1, e2, e3, Nat.pow_zero, Nat.mul_one, Nat.mul_right_comm (2 ^ 53 - 1)]
    refine Nat.mul_le_mul_right _ ?_
    omega)
  have hge := zmag_roundRatio_ge good_b64 (s := false) (A := N) (B := D) (e := 0) (e0 := b64.qmin) (V := .fin false (2 ^ 52) (-62)) (by omega) (by unfold FP.Core.fits; decide +kernel) (Int.le_refl _) (by decide +kernel) (by
    have e1 : zmag b64 (.fin false (2 ^ 52) (-62)) = 2 ^ 1064 := by decide +kernel
    have e2 : (b64.qmin - b64.qmin).toNat = 0 := by decide +kernel
    have e3 : inUnits N 0 b64.qmin = N * 2 ^ 10 * 2 ^ 1064 := by
      show N * 2 ^ 1074 = _
      rw [Nat.mul_assoc, ← Nat.pow_add]
    rw [e1, e2, e3, Nat.pow_zero, Nat.mul_one, Nat.mul_comm]
    refine Nat.mul_le_mul_right _ ?_
    omega)
  have e1 : zmag b64 (.fin false (2 ^ 53 - 1) (-53)) < 2 ^ 1074 := by decide +kernel
  have e2 : 0 < zmag b64 (.fin false (2 ^ 52) (-62)) := by decide +kernel
  refine ⟨dcmp_gt.mpr ⟨hn, by decide +kernel, ?_⟩, dcmp_lt.mpr ⟨hn, by decide +kernel, ?_⟩⟩
  · rw [zval64_zero, hz]
    exact Int.ofNat_lt.mpr (Nat.lt_of_lt_of_le e2 hge)
  · rw [own_zone, hz]
    exact Int.ofNat_lt.mpr (Nat.lt_of_le_of_lt hle e1)
end Jvm.OwnF
namespace Jvm.Pilot.@@N@@
open Jvm Jvm.ClassFile Sem Op Lib Jvm.Free Jvm.Stand Jvm.LawKit Jvm.RoadKit Jvm.Own Bundle Jvm.Pilot.@@N@@.Jvm.D
theorem own_w3 {w x : Int32} (h : w = ((1 : Int32) + ((x &&& (2147483647 : Int32)) % (1000 : Int32)))) : 1 ≤ w.toInt ∧ w.toInt ≤ 1000 := by
  have hx : 0 ≤ (x &&& (2147483647 : Int32)).toInt := (c_and x 2147483647 (by decide)).1
  have hm : 0 ≤ ((x &&& (2147483647 : Int32)) % (1000 : Int32)).toInt ∧ ((x &&& (2147483647 : Int32)) % (1000 : Int32)).toInt < 1000 := by
    rw [Int32.toInt_mod, show (1000 : Int32).toInt = 1000 from rfl, Int.tmod_eq_emod_of_nonneg hx]
    exact ⟨Int.emod_nonneg _ (by omega), Int.emod_lt_of_pos _ (by omega)⟩
  rw [h, Int32.toInt_add, show (1 : Int32).toInt = 1 from rfl]
  rw [Int.bmod_eq_of_le (by omega) (by omega)]
  omega
theorem own_s3 {w : Int32} (h : 1 ≤ w.toInt ∧ w.toInt ≤ 1000) : (w + (1 : Int32)).toInt = w.toInt + 1 := by
  rw [Int32.toInt_add, show (1 : Int32).toInt = 1 from rfl]
  exact Int.bmod_eq_of_le (by omega) (by omega)
theorem own_nz3 {w : Int32} (h : 1 ≤ w.toInt ∧ w.toInt ≤ 1000) : w + (1 : Int32) ≠ 0 := fun q => by
  have := own_s3 h
  rw [q, show (0 : Int32).toInt = 0 from rfl] at this
  omega
theorem own_w4 {w y x : Int32} (h : 1 ≤ w.toInt ∧ w.toInt ≤ 1000) (e : y = ((x &&& (2147483647 : Int32)) % (w + (1 : Int32)))) : 0 ≤ y.toInt ∧ y.toInt ≤ w.toInt := by
  have hx : 0 ≤ (x &&& (2147483647 : Int32)).toInt := (c_and x 2147483647 (by decide)).1
  rw [e, Int32.toInt_mod, own_s3 h, Int.tmod_eq_emod_of_nonneg hx]
  have h1 := Int.emod_nonneg (x &&& (2147483647 : Int32)).toInt (show w.toInt + 1 ≠ 0 by omega)
  have h2 := Int.emod_lt_of_pos (x &&& (2147483647 : Int32)).toInt (show 0 < w.toInt + 1 by omega)
  omega
theorem own_dnn {w y : Int32} (h : 1 ≤ w.toInt ∧ w.toInt ≤ 1000) (g : 0 ≤ y.toInt ∧ y.toInt ≤ w.toInt) : Jvm.Free.Fl.NoNaN64 (FP.ddiv (FP.i2d y) (FP.i2d w)) :=
  Jvm.Free.Fl.val64_no.mpr (Jvm.OwnF.own_nn (Jvm.OwnF.own_div g.1 h.1))
theorem own_bnd {w y t : Int32} {u z : UInt64} (h : 1 ≤ w.toInt ∧ w.toInt ≤ 1000) (g : 0 ≤ y.toInt ∧ y.toInt ≤ w.toInt) (hu : u = FP.ddiv (FP.i2d y) (FP.i2d w)) (hz : z = (if y = (0 : Int32) then (if t = (0 : Int32) then u else (FP.dneg u)) else u)) :
    ¬ (cmpValue (FP.dcmp z (0 : UInt64)) .l < (0 : Int32)) ∧ ¬ ((0 : Int32) < cmpValue (FP.dcmp z (4607182418800017408 : UInt64)) .g) ∧ (if cmpValue (FP.dcmp z (0 : UInt64)) .l = (0 : Int32) then (1 : Int32) else (if cmpValue (FP.dcmp z (4607182418800017408 : UInt64)) .l = (0 : Int32) then (1 : Int32) else (0 : Int32))) = (if y = (0 : Int32) then (1 : Int32) else (if y = w then (1 : Int32) else (0 : Int32))) := by
  by_cases c0 : y = 0
  · have e := Jvm.OwnF.own_q0 c0 h.1
    have hu0 : u = 0 := hu.trans e
    rw [if_pos c0, hu0] at hz
    rw [if_pos c0]
    have : z = 0 ∨ z = 9223372036854775808 := by
      by_cases ct : t = 0
      · rw [if_pos ct] at hz; exact Or.inl hz
      · rw [if_neg ct] at hz; exact Or.inr hz
    rcases this with rfl | rfl <;> decide +kernel
  · rw [if_neg c0] at hz
    rw [if_neg c0]
    have hp : 1 ≤ y.toInt := by
      have : y.toInt ≠ 0 := fun q => c0 (Int32.toInt_inj.mp (by rw [q]; rfl))
      omega
    by_cases c1 : y = w
    · have e := Jvm.OwnF.own_q1 c1 h.1
      have : z = 4607182418800017408 := hz.trans (hu.trans e)
      rw [if_pos c1, this]
      decide +kernel
    · have hl : y.toInt < w.toInt := by
        have : y.toInt ≠ w.toInt := fun q => c1 (Int32.toInt_inj.mp q)
        omega
      obtain ⟨e1, e2⟩ := Jvm.OwnF.own_qm hp hl h.2
      have d1 : FP.dcmp z (0 : UInt64) = some .gt := by rw [hz, hu]; exact e1
      have d2 : FP.dcmp z (4607182418800017408 : UInt64) = some .lt := by rw [hz, hu]; exact e2
      rw [if_neg c1, d1, d2]
      decide +kernel
theorem d1_0 : decode method_3_code 0 = .ok (.iload_n 0, 1) := by decide +kernel
theorem d1_1 : decode method_3_code 1 = .ok (.ifCond .ne 10, 3) := by decide +kernel
theorem d1_4 : decode method_3_code 4 = .ok (.getstatic 23, 3) := by decide +kernel
theorem d1_7 : decode method_3_code 7 = .ok (.astore_n 1, 1) := by decide +kernel
theorem d1_8 : decode method_3_code 8 = .ok (.goto 31, 3) := by decide +kernel
theorem d1_39 : decode method_3_code 39 = .ok (.aload_n 1, 1) := by decide +kernel
theorem d1_40 : decode method_3_code 40 = .ok (.areturn, 1) := by decide +kernel
theorem d1_11 : decode method_3_code 11 = .ok (.iload_n 0, 1) := by decide +kernel
theorem d1_12 : decode method_3_code 12 = .ok (.iconst 1, 1) := by decide +kernel
theorem d1_13 : decode method_3_code 13 = .ok (.if_icmp .ne 10, 3) := by decide +kernel
theorem d1_16 : decode method_3_code 16 = .ok (.getstatic 29, 3) := by decide +kernel
theorem d1_19 : decode method_3_code 19 = .ok (.astore_n 1, 1) := by decide +kernel
theorem d1_20 : decode method_3_code 20 = .ok (.goto 19, 3) := by decide +kernel
theorem d1_23 : decode method_3_code 23 = .ok (.iload_n 0, 1) := by decide +kernel
theorem d1_24 : decode method_3_code 24 = .ok (.iconst 2, 1) := by decide +kernel
theorem d1_25 : decode method_3_code 25 = .ok (.if_icmp .ne 10, 3) := by decide +kernel
theorem d1_28 : decode method_3_code 28 = .ok (.getstatic 32, 3) := by decide +kernel
theorem d1_31 : decode method_3_code 31 = .ok (.astore_n 1, 1) := by decide +kernel
theorem d1_32 : decode method_3_code 32 = .ok (.goto 7, 3) := by decide +kernel
theorem d1_35 : decode method_3_code 35 = .ok (.getstatic 35, 3) := by decide +kernel
theorem d1_38 : decode method_3_code 38 = .ok (.astore_n 1, 1) := by decide +kernel
theorem pn_1 : plainName "com/example/petrel/petrel/model/ThresholdIsQualitativePinLaw" = true := by first | (simp [plainName, overriddenIn]; done) | decide +kernel
theorem ef_1 (m : MethodId) (x0 : Int32) : entryFrame m #[(.int x0)] 2 = mkF m 0 #[.val (.int x0), .unset] [] := by first | (simp [entryFrame, mkF, argsToLocals, Value.category]; done) | rfl
def Q1 (Z : State) (p0 : Int32) (c0 c1 c2 c3 : Addr) (h0 : Heap) (n0 : Nat) (v : Option Value) (h : Heap) (L : List Loc) : Prop := ∃ r : Addr, v = some (.ref r) ∧ Exa Z h0 r "com/example/petrel/petrel/model/Property$Comparison" ∧ Fr n0 L ∧ h = h0
set_option maxRecDepth 65536 in
set_option maxHeartbeats 40000000 in
theorem rm1 (l : Launch) (Z : State) (aw : Array Value) (hw : ∀ d ∈ tables_1, d.before aw Z = true) (ws : List Jvm.Cond) (p0 : Int32) (c0 c1 c2 c3 : Addr) (h0 : Heap) (n0 : Nat) (Z0 : n0 ≤ h0.size) (O0 : Old Z n0 h0) (S_0 : Sta Z Z.heap "com/example/petrel/petrel/model/Property$Comparison" "AT_MOST" "Lcom/example/petrel/petrel/model/Property$Comparison;" (.ref c0)) (E_0 : Exa Z Z.heap c0 "com/example/petrel/petrel/model/Property$Comparison") (S_1 : Sta Z Z.heap "com/example/petrel/petrel/model/Property$Comparison" "BELOW" "Lcom/example/petrel/petrel/model/Property$Comparison;" (.ref c1)) (E_1 : Exa Z Z.heap c1 "com/example/petrel/petrel/model/Property$Comparison") (S_2 : Sta Z Z.heap "com/example/petrel/petrel/model/Property$Comparison" "ABOVE" "Lcom/example/petrel/petrel/model/Property$Comparison;" (.ref c2)) (E_2 : Exa Z Z.heap c2 "com/example/petrel/petrel/model/Property$Comparison") (S_3 : Sta Z Z.heap "com/example/petrel/petrel/model/Property$Comparison" "AT_LEAST" "Lcom/example/petrel/petrel/model/Property$Comparison;" (.ref c3)) (E_3 : Exa Z Z.heap c3 "com/example/petrel/petrel/model/Property$Comparison") :
    MetFree l (⟨"com/example/petrel/petrel/model/ThresholdIsQualitativePinLaw", "comparison", "(I)Lcom/example/petrel/petrel/model/Property$Comparison;"⟩ : MethodName) (head1 (Jvm.Cond.code (⟨"com/example/petrel/petrel/model/ThresholdIsQualitativePinLaw", "comparison", "(I)Lcom/example/petrel/petrel/model/Property$Comparison;"⟩ : MethodName) method_3_code 2 (some (.object "com/example/petrel/petrel/model/Property$Comparison")) :: ws) ({ frames := 0, cells := 0, slots := 0, locals := 0 } : Room)) (fun a U => a = #[(.int p0)] ∧ Z.Warmed39 U.vm ∧ U.heap = h0) (fun _ _ _ _ _ => True) (fun _ U o U' => ∃ v L, o = .returned v ∧ Q1 Z p0 c0 c1 c2 c3 h0 n0 v U'.heap L ∧ FrameEnd U o U' L ({ frames := 0, cells := 0, slots := 0, locals := 0 } : Room).cells ({ frames := 0, cells := 0, slots := 0, locals := 0 } : Room).slots) := by
  refine MetFree.of_bodySF (plainFor_of_name pn_1) hisR ?_
  intro p e s m args below meth c s₁ Bd hml0 hP hK
  obtain ⟨rfl, hZ, hh⟩ := hP
  have hx := Bd.exec
  have hby := Bd.bytes
  have hml : c.maxLocals = 2 := hml0
  have hown : s.vm.findClass "com/example/petrel/petrel/model/ThresholdIsQualitativePinLaw" = some m.cls := findClass_of_methodNamed Bd.named
  have hnm := (name_of_methodNamed Bd.named Bd.method).1
  have hlk : meth.locks = false := BodyLoose.notSynchronized Bd
  have X0 : Stand p l e ({ frames := 0, cells := 0, slots := 0, locals := 0 } : Room) s m #[(.int p0)] below meth c s₁ [] 0 0 := Stand.of_body Bd
  have e0 : s₁.heap = h0 := by rw [← hh, Bd.state]; rfl
  have N0 := Fr.nil n0
  show Run p e s below (Q1 Z p0 c0 c1 c2 c3 h0 n0) ({ frames := 0, cells := 0, slots := 0, locals := 0 } : Room).cells ({ frames := 0, cells := 0, slots := 0, locals := 0 } : Room).slots s₁ (entryFrame m #[(.int p0)] 2)
  rw [ef_1]
  show Run _ _ _ _ _ _ _ s₁ (mkF m 0 #[.val (.int p0), .unset] [])
  refine go (T' := s₁) (f' := (mkF m 1 #[.val (.int p0), .unset] [(.int p0)])) (by intro t k; exact XS.iloadN X0.here hx rfl (hb hby d1_0) rfl k) ?_
  by_cases hc1 : p0 = (0 : Int32)
  · refine go (T' := s₁) (f' := (mkF m 4 #[.val (.int p0), .unset] [])) (by intro t k; exact XS.ifNo X0.here hx rfl (hb hby d1_1) rfl ((if0 _ _).trans (teq hc1).2) k) ?_
    obtain ⟨T1, X1, e1, st1⟩ := getS2 X0 hx hZ hown (host := "") (Or.inl (hw _ (List.mem_of_getElem? (i := 35) rfl))) Via.refl e0 (S_3.ext O0.2) (g := (mkF m 4 #[.val (.int p0), .unset] [])) rfl (hb hby d1_4)
    refine go st1 ?_
    show Run _ _ _ _ _ _ _ T1 (mkF m 7 #[.val (.int p0), .unset] [(.ref c3)])
    refine go (T' := T1) (f' := (mkF m 8 #[.val (.int p0), .val (.ref c3)] [])) (by intro t k; exact XS.astoreN X1.here hx rfl (hb hby d1_7) rfl rfl (l' := #[.val (.int p0), .val (.ref c3)]) rfl k) ?_
    refine go (T' := T1) (f' := (mkF m 39 #[.val (.int p0), .val (.ref c3)] [])) (by intro t k; exact XS.goto X1.here hx rfl (pc0 := 8) (pc' := 39) rfl (hb hby d1_8) (by decide) (by decide) k) ?_
    refine go (T' := T1) (f' := (mkF m 40 #[.val (.int p0), .val (.ref c3)] [(.ref c3)])) (by intro t k; exact XS.aloadN X1.here hx rfl (hb hby d1_39) rfl rfl k) ?_
    refine retW X1 hx (t := (.object "com/example/petrel/petrel/model/Property$Comparison")) Bd.returns rfl (Or.inr (Or.inr (Or.inr (Or.inr ⟨rfl, rfl, rfl⟩)))) (hb hby d1_40) hlk (by decide) (by decide) ?_
    show Q1 Z p0 c0 c1 c2 c3 h0 n0 _ T1.heap _
    rw [e1]
    have hv : Exa Z h0 c3 "com/example/petrel/petrel/model/Property$Comparison" := by
      exact (Exa.ext O0.2 E_3)
    exact ⟨_, rfl, hv, N0, rfl⟩
  · refine go (T' := s₁) (f' := (mkF m 11 #[.val (.int p0), .unset] [])) (by intro t k; exact XS.ifYes X0.here hx rfl (pc0 := 1) (pc' := 11) rfl (hb hby d1_1) rfl ((if0 _ _).trans (feq hc1).2) (by decide) (by decide) k) ?_
    refine go (T' := s₁) (f' := (mkF m 12 #[.val (.int p0), .unset] [(.int p0)])) (by intro t k; exact XS.iloadN X0.here hx rfl (hb hby d1_11) rfl k) ?_
    refine go (T' := s₁) (f' := (mkF m 13 #[.val (.int p0), .unset] [(.int (1 : Int32)), (.int p0)])) (by intro t k; exact XS.iconst X0.here hx rfl (hb hby d1_12) k) ?_
    by_cases hc13 : p0 = (1 : Int32)
    · refine go (T' := s₁) (f' := (mkF m 16 #[.val (.int p0), .unset] [])) (by intro t k; exact XS.icmpNo X0.here hx rfl (hb hby d1_13) rfl (teq hc13).2 k) ?_
      obtain ⟨T2, X2, e2, st2⟩ := getS2 X0 hx hZ hown (host := "") (Or.inl (hw _ (List.mem_of_getElem? (i := 33) rfl))) Via.refl e0 (S_2.ext O0.2) (g := (mkF m 16 #[.val (.int p0), .unset] [])) rfl (hb hby d1_16)
      refine go st2 ?_
      show Run _ _ _ _ _ _ _ T2 (mkF m 19 #[.val (.int p0), .unset] [(.ref c2)])
      refine go (T' := T2) (f' := (mkF m 20 #[.val (.int p0), .val (.ref c2)] [])) (by intro t k; exact XS.astoreN X2.here hx rfl (hb hby d1_19) rfl rfl (l' := #[.val (.int p0), .val (.ref c2)]) rfl k) ?_
      refine go (T' := T2) (f' := (mkF m 39 #[.val (.int p0), .val (.ref c2)] [])) (by intro t k; exact XS.goto X2.here hx rfl (pc0 := 20) (pc' := 39) rfl (hb hby d1_20) (by decide) (by decide) k) ?_
      refine go (T' := T2) (f' := (mkF m 40 #[.val (.int p0), .val (.ref c2)] [(.ref c2)])) (by intro t k; exact XS.aloadN X2.here hx rfl (hb hby d1_39) rfl rfl k) ?_
      refine retW X2 hx (t := (.object "com/example/petrel/petrel/model/Property$Comparison")) Bd.returns rfl (Or.inr (Or.inr (Or.inr (Or.inr ⟨rfl, rfl, rfl⟩)))) (hb hby d1_40) hlk (by decide) (by decide) ?_
      show Q1 Z p0 c0 c1 c2 c3 h0 n0 _ T2.heap _
      rw [e2]
      have hv : Exa Z h0 c2 "com/example/petrel/petrel/model/Property$Comparison" := by
        exact (Exa.ext O0.2 E_2)
      exact ⟨_, rfl, hv, N0, rfl⟩
    · refine go (T' := s₁) (f' := (mkF m 23 #[.val (.int p0), .unset] [])) (by intro t k; exact XS.icmpYes X0.here hx rfl (pc0 := 13) (pc' := 23) rfl (hb hby d1_13) rfl (feq hc13).2 (by decide) (by decide) k) ?_
      refine go (T' := s₁) (f' := (mkF m 24 #[.val (.int p0), .unset] [(.int p0)])) (by intro t k; exact XS.iloadN X0.here hx rfl (hb hby d1_23) rfl k) ?_
      refine go (T' := s₁) (f' := (mkF m 25 #[.val (.int p0), .unset] [(.int (2 : Int32)), (.int p0)])) (by intro t k; exact XS.iconst X0.here hx rfl (hb hby d1_24) k) ?_
      by_cases hc25 : p0 = (2 : Int32)
      · refine go (T' := s₁) (f' := (mkF m 28 #[.val (.int p0), .unset] [])) (by intro t k; exact XS.icmpNo X0.here hx rfl (hb hby d1_25) rfl (teq hc25).2 k) ?_
        obtain ⟨T3, X3, e3, st3⟩ := getS2 X0 hx hZ hown (host := "") (Or.inl (hw _ (List.mem_of_getElem? (i := 5) rfl))) Via.refl e0 (S_0.ext O0.2) (g := (mkF m 28 #[.val (.int p0), .unset] [])) rfl (hb hby d1_28)
        refine go st3 ?_
        show Run _ _ _ _ _ _ _ T3 (mkF m 31 #[.val (.int p0), .unset] [(.ref c0)])
        refine go (T' := T3) (f' := (mkF m 32 #[.val (.int p0), .val (.ref c0)] [])) (by intro t k; exact XS.astoreN X3.here hx rfl (hb hby d1_31) rfl rfl (l' := #[.val (.int p0), .val (.ref c0)]) rfl k) ?_
        refine go (T' := T3) (f' := (mkF m 39 #[.val (.int p0), .val (.ref c0)] [])) (by intro t k; exact XS.goto X3.here hx rfl (pc0 := 32) (pc' := 39) rfl (hb hby d1_32) (by decide) (by decide) k) ?_
        refine go (T' := T3) (f' := (mkF m 40 #[.val (.int p0), .val (.ref c0)] [(.ref c0)])) (by intro t k; exact XS.aloadN X3.here hx rfl (hb hby d1_39) rfl rfl k) ?_
        refine retW X3 hx (t := (.object "com/example/petrel/petrel/model/Property$Comparison")) Bd.returns rfl (Or.inr (Or.inr (Or.inr (Or.inr ⟨rfl, rfl, rfl⟩)))) (hb hby d1_40) hlk (by decide) (by decide) ?_
        show Q1 Z p0 c0 c1 c2 c3 h0 n0 _ T3.heap _
        rw [e3]
        have hv : Exa Z h0 c0 "com/example/petrel/petrel/model/Property$Comparison" := by
          exact (Exa.ext O0.2 E_0)
        exact ⟨_, rfl, hv, N0, rfl⟩
      · refine go (T' := s₁) (f' := (mkF m 35 #[.val (.int p0), .unset] [])) (by intro t k; exact XS.icmpYes X0.here hx rfl (pc0 := 25) (pc' := 35) rfl (hb hby d1_25) rfl (feq hc25).2 (by decide) (by decide) k) ?_
        obtain ⟨T4, X4, e4, st4⟩ := getS2 X0 hx hZ hown (host := "") (Or.inl (hw _ (List.mem_of_getElem? (i := 31) rfl))) Via.refl e0 (S_1.ext O0.2) (g := (mkF m 35 #[.val (.int p0), .unset] [])) rfl (hb hby d1_35)
        refine go st4 ?_
        show Run _ _ _ _ _ _ _ T4 (mkF m 38 #[.val (.int p0), .unset] [(.ref c1)])
        refine go (T' := T4) (f' := (mkF m 39 #[.val (.int p0), .val (.ref c1)] [])) (by intro t k; exact XS.astoreN X4.here hx rfl (hb hby d1_38) rfl rfl (l' := #[.val (.int p0), .val (.ref c1)]) rfl k) ?_
        refine go (T' := T4) (f' := (mkF m 40 #[.val (.int p0), .val (.ref c1)] [(.ref c1)])) (by intro t k; exact XS.aloadN X4.here hx rfl (hb hby d1_39) rfl rfl k) ?_
        refine retW X4 hx (t := (.object "com/example/petrel/petrel/model/Property$Comparison")) Bd.returns rfl (Or.inr (Or.inr (Or.inr (Or.inr ⟨rfl, rfl, rfl⟩)))) (hb hby d1_40) hlk (by decide) (by decide) ?_
        show Q1 Z p0 c0 c1 c2 c3 h0 n0 _ T4.heap _
        rw [e4]
        have hv : Exa Z h0 c1 "com/example/petrel/petrel/model/Property$Comparison" := by
          exact (Exa.ext O0.2 E_1)
        exact ⟨_, rfl, hv, N0, rfl⟩
theorem d3_0 : decode jdk_30_method_1_code 0 = .ok (.aload_n 0, 1) := by decide +kernel
theorem d3_1 : decode jdk_30_method_1_code 1 = .ok (.invokespecial 1, 3) := by decide +kernel
theorem d3_4 : decode jdk_30_method_1_code 4 = .ok (.return_, 1) := by decide +kernel
theorem pn_3 : plainName "java/lang/Record" = true := by first | (simp [plainName, overriddenIn]; done) | decide +kernel
theorem ef_3 (m : MethodId) (x0 : Addr) : entryFrame m #[(.ref x0)] 1 = mkF m 0 #[.val (.ref x0)] [] := by first | (simp [entryFrame, mkF, argsToLocals, Value.category]; done) | rfl
def Q3 (Z : State) (a0 : Addr) (h0 : Heap) (n0 : Nat) (v : Option Value) (h : Heap) (L : List Loc) : Prop := v = none ∧ Fr n0 L ∧ h = h0
set_option maxRecDepth 65536 in
set_option maxHeartbeats 40000000 in
theorem rm3 (l : Launch) (Z : State) (aw : Array Value) (hw : ∀ d ∈ tables_1, d.before aw Z = true) (ws : List Jvm.Cond) (a0 : Addr) (h0 : Heap) (n0 : Nat) (Z0 : n0 ≤ h0.size) :
    MetFree l (⟨"java/lang/Record", "<init>", "()V"⟩ : MethodName) (head1 (Jvm.Cond.code (⟨"java/lang/Record", "<init>", "()V"⟩ : MethodName) jdk_30_method_1_code 1 none :: ws) ({ frames := 1, cells := 0, slots := 0, locals := 12 } : Room)) (fun a U => a = #[(.ref a0)] ∧ Z.Warmed39 U.vm ∧ U.heap = h0) (fun _ _ _ _ _ => True) (fun _ U o U' => ∃ v L, o = .returned v ∧ Q3 Z a0 h0 n0 v U'.heap L ∧ FrameEnd U o U' L ({ frames := 1, cells := 0, slots := 0, locals := 12 } : Room).cells ({ frames := 1, cells := 0, slots := 0, locals := 12 } : Room).slots) := by
  refine MetFree.of_bodySF (plainFor_of_name pn_3) hisR ?_
  intro p e s m args below meth c s₁ Bd hml0 hP hK
  obtain ⟨rfl, hZ, hh⟩ := hP
  have hx := Bd.exec
  have hby := Bd.bytes
  have hml : c.maxLocals = 1 := hml0
  have hown : s.vm.findClass "java/lang/Record" = some m.cls := findClass_of_methodNamed Bd.named
  have hnm := (name_of_methodNamed Bd.named Bd.method).1
  have hlk : meth.locks = false := BodyLoose.notSynchronized Bd
  have X0 : Stand p l e ({ frames := 1, cells := 0, slots := 0, locals := 12 } : Room) s m #[(.ref a0)] below meth c s₁ [] 0 0 := Stand.of_body Bd
  have e0 : s₁.heap = h0 := by rw [← hh, Bd.state]; rfl
  have N0 := Fr.nil n0
  show Run p e s below (Q3 Z a0 h0 n0) ({ frames := 1, cells := 0, slots := 0, locals := 12 } : Room).cells ({ frames := 1, cells := 0, slots := 0, locals := 12 } : Room).slots s₁ (entryFrame m #[(.ref a0)] 1)
  rw [ef_3]
  show Run _ _ _ _ _ _ _ s₁ (mkF m 0 #[.val (.ref a0)] [])
  refine go (T' := s₁) (f' := (mkF m 1 #[.val (.ref a0)] [(.ref a0)])) (by intro t k; exact XS.aloadN X0.here hx rfl (hb hby d3_0) rfl rfl k) ?_
  obtain ⟨T1, X1, e1, st1⟩ := initO X0 hx hZ hown (hw _ (List.mem_of_getElem? (i := 19) rfl)) (hw _ (List.mem_of_getElem? (i := 20) rfl)) (hw _ (List.mem_of_getElem? (i := 21) rfl)) e0 (g := (mkF m 1 #[.val (.ref a0)] [(.ref a0)])) rfl (by rw [hml]; rfl) rfl (hb hby d3_1) (by decide) (W := 0) (by show 2 * 0 + _ ≤ _; exact Nat.le_of_eq rfl) (by decide)
  refine go st1 ?_
  show Run _ _ _ _ _ _ _ T1 (mkF m 4 #[.val (.ref a0)] [])
  refine retV X1 hx Bd.returns (hb hby d3_4) hlk (by decide) (by decide) ?_
  show Q3 Z a0 h0 n0 _ T1.heap _
  rw [e1]
  exact ⟨rfl, N0, rfl⟩
theorem d2_0 : decode prog_90_method_1_code 0 = .ok (.aload_n 0, 1) := by decide +kernel
theorem d2_1 : decode prog_90_method_1_code 1 = .ok (.invokespecial 1, 3) := by decide +kernel
theorem d2_4 : decode prog_90_method_1_code 4 = .ok (.aload_n 1, 1) := by decide +kernel
theorem d2_5 : decode prog_90_method_1_code 5 = .ok (.ifnull 15, 3) := by decide +kernel
theorem d2_8 : decode prog_90_method_1_code 8 = .ok (.dload_n 2, 1) := by decide +kernel
theorem d2_9 : decode prog_90_method_1_code 9 = .ok (.dconst 0, 1) := by decide +kernel
theorem d2_10 : decode prog_90_method_1_code 10 = .ok (.dcmp .l, 1) := by decide +kernel
theorem d2_11 : decode prog_90_method_1_code 11 = .ok (.ifCond .lt 9, 3) := by decide +kernel
theorem d2_14 : decode prog_90_method_1_code 14 = .ok (.dload_n 2, 1) := by decide +kernel
theorem d2_15 : decode prog_90_method_1_code 15 = .ok (.dconst 1, 1) := by decide +kernel
theorem d2_16 : decode prog_90_method_1_code 16 = .ok (.dcmp .g, 1) := by decide +kernel
theorem d2_17 : decode prog_90_method_1_code 17 = .ok (.ifCond .le 21, 3) := by decide +kernel
theorem d2_38 : decode prog_90_method_1_code 38 = .ok (.aload_n 0, 1) := by decide +kernel
theorem d2_39 : decode prog_90_method_1_code 39 = .ok (.aload_n 1, 1) := by decide +kernel
theorem d2_40 : decode prog_90_method_1_code 40 = .ok (.putfield 22, 3) := by decide +kernel
theorem d2_43 : decode prog_90_method_1_code 43 = .ok (.aload_n 0, 1) := by decide +kernel
theorem d2_44 : decode prog_90_method_1_code 44 = .ok (.dload_n 2, 1) := by decide +kernel
theorem d2_45 : decode prog_90_method_1_code 45 = .ok (.putfield 28, 3) := by decide +kernel
theorem d2_48 : decode prog_90_method_1_code 48 = .ok (.return_, 1) := by decide +kernel
theorem pd_2829V : parseMethodDescriptor "()V" = some ⟨[], none⟩ := by decide +kernel
theorem pn_2 : plainName "com/example/petrel/petrel/model/Property$Threshold" = true := by first | (simp [plainName, overriddenIn]; done) | decide +kernel
theorem ef_2 (m : MethodId) (x0 : Addr) (x1 : Addr) (x2 : UInt64) : entryFrame m #[(.ref x0), (.ref x1), (.double x2)] 4 = mkF m 0 #[.val (.ref x0), .val (.ref x1), .val (.double x2), .second] [] := by first | (simp [entryFrame, mkF, argsToLocals, Value.category]; done) | rfl
def Q2 (Z : State) (a0 : Addr) (a1 : Addr) (d2 : UInt64) (h0 : Heap) (n0 : Nat) (v : Option Value) (h : Heap) (L : List Loc) : Prop := v = none ∧ Fr n0 L ∧ Keep h0 h [a0] ∧ Fld Z h a0 "com/example/petrel/petrel/model/Property$Threshold" "bound" "D" (.double d2)
set_option maxRecDepth 65536 in
set_option maxHeartbeats 40000000 in
theorem rm2 (l : Launch) (Z : State) (aw : Array Value) (hw : ∀ d ∈ tables_1, d.before aw Z = true) (ws : List Jvm.Cond) (a0 : Addr) (a1 : Addr) (d2 : UInt64) (h0 : Heap) (n0 : Nat) (Z0 : n0 ≤ h0.size) (E_a0 : Exa Z h0 a0 "com/example/petrel/petrel/model/Property$Threshold") (F_c : Fld Z h0 a0 "com/example/petrel/petrel/model/Property$Threshold" "comparison" "Lcom/example/petrel/petrel/model/Property$Comparison;" .null) (F_b : Fld Z h0 a0 "com/example/petrel/petrel/model/Property$Threshold" "bound" "D" (.double (0 : UInt64))) (g_a0 : n0 ≤ a0) (E_a1 : Exa Z h0 a1 "com/example/petrel/petrel/model/Property$Comparison") (n_01 : a0 ≠ a1) (hA : ¬ (cmpValue (FP.dcmp d2 (0 : UInt64)) .l < (0 : Int32))) (hB : ¬ ((0 : Int32) < cmpValue (FP.dcmp d2 (4607182418800017408 : UInt64)) .g)) :
    MetFree l (⟨"com/example/petrel/petrel/model/Property$Threshold", "<init>", "(Lcom/example/petrel/petrel/model/Property$Comparison;D)V"⟩ : MethodName) (head1 (Jvm.Cond.code (⟨"com/example/petrel/petrel/model/Property$Threshold", "<init>", "(Lcom/example/petrel/petrel/model/Property$Comparison;D)V"⟩ : MethodName) prog_90_method_1_code 4 none :: ws) ({ frames := 2, cells := 0, slots := 0, locals := 24 } : Room)) (fun a U => a = #[(.ref a0), (.ref a1), (.double d2)] ∧ Z.Warmed39 U.vm ∧ U.heap = h0) (fun _ _ _ _ _ => True) (fun _ U o U' => ∃ v L, o = .returned v ∧ Q2 Z a0 a1 d2 h0 n0 v U'.heap L ∧ FrameEnd U o U' L ({ frames := 2, cells := 0, slots := 0, locals := 24 } : Room).cells ({ frames := 2, cells := 0, slots := 0, locals := 24 } : Room).slots) := by
  refine MetFree.of_bodySF (plainFor_of_name pn_2) hisR ?_
  intro p e s m args below meth c s₁ Bd hml0 hP hK
  obtain ⟨rfl, hZ, hh⟩ := hP
  have hx := Bd.exec
  have hby := Bd.bytes
  have hml : c.maxLocals = 4 := hml0
  have hown : s.vm.findClass "com/example/petrel/petrel/model/Property$Threshold" = some m.cls := findClass_of_methodNamed Bd.named
  have hnm := (name_of_methodNamed Bd.named Bd.method).1
  have hlk : meth.locks = false := BodyLoose.notSynchronized Bd
  have X0 : Stand p l e ({ frames := 2, cells := 0, slots := 0, locals := 24 } : Room) s m #[(.ref a0), (.ref a1), (.double d2)] below meth c s₁ [] 0 0 := Stand.of_body Bd
  have e0 : s₁.heap = h0 := by rw [← hh, Bd.state]; rfl
  have N0 := Fr.nil n0
  show Run p e s below (Q2 Z a0 a1 d2 h0 n0) ({ frames := 2, cells := 0, slots := 0, locals := 24 } : Room).cells ({ frames := 2, cells := 0, slots := 0, locals := 24 } : Room).slots s₁ (entryFrame m #[(.ref a0), (.ref a1), (.double d2)] 4)
  rw [ef_2]
  show Run _ _ _ _ _ _ _ s₁ (mkF m 0 #[.val (.ref a0), .val (.ref a1), .val (.double d2), .second] [])
  refine go (T' := s₁) (f' := (mkF m 1 #[.val (.ref a0), .val (.ref a1), .val (.double d2), .second] [(.ref a0)])) (by intro t k; exact XS.aloadN X0.here hx rfl (hb hby d2_0) rfl rfl k) ?_
  obtain ⟨_, _, ⟨T1, Lz1, kz1, nz1⟩, -, X1, ⟨Lc1, hQ1, lz1, yz1, zz1⟩, st1⟩ := X0.specialBack hx (y := (⟨"java/lang/Record", "<init>", "()V"⟩ : MethodName)) rfl hown (mvT hZ (hw _ (List.mem_of_getElem? (i := 14) rfl))) (mvT hZ (hw _ (List.mem_of_getElem? (i := 15) rfl))) (mvT hZ (hw _ (List.mem_of_getElem? (i := 18) rfl))) (by decide) (backOf (W := 0) (rm3 l Z aw hw [] a0  h0 n0 Z0 ) hZ (hw _ (List.mem_of_getElem? (i := 18) rfl)) (hw _ (List.mem_of_getElem? (i := 17) rfl)) (by decide) (by decide)) (g := (mkF m 1 #[.val (.ref a0), .val (.ref a1), .val (.double d2), .second] [(.ref a0)])) rfl (by rw [hml]; rfl) (Steps.refl _) (a := a0) (argsL := []) (rest := []) (lenOf pd_2829V rfl) rfl (by show 2 * 0 + _ ≤ _; exact Nat.le_of_eq rfl) (hb hby d2_1) (fun _ _ => ⟨rfl, e0, (by decide : 0 + 0 ≤ _), (by decide : 0 + 0 ≤ _)⟩)
  dsimp only [Pt.U, Pt.locs, Pt.cells, Pt.slots] at X1 lz1 yz1 zz1 st1 hQ1
  subst lz1 yz1 zz1
  obtain ⟨rfl, N1q, e1⟩ := hQ1
  have N1 := Fr.app N0 N1q
  refine go (fun _ k => st1.trans k) ?_
  show Run _ _ _ _ _ _ _ T1 (mkF m 4 #[.val (.ref a0), .val (.ref a1), .val (.double d2), .second] [])
  refine go (T' := T1) (f' := (mkF m 5 #[.val (.ref a0), .val (.ref a1), .val (.double d2), .second] [(.ref a1)])) (by intro t k; exact XS.aloadN X1.here hx rfl (hb hby d2_4) rfl rfl k) ?_
  refine go (T' := T1) (f' := (mkF m 8 #[.val (.ref a0), .val (.ref a1), .val (.double d2), .second] [])) (by intro t k; exact XS.ifnullNo X1.here hx rfl (hb hby d2_5) rfl k) ?_
  refine go (T' := T1) (f' := (mkF m 9 #[.val (.ref a0), .val (.ref a1), .val (.double d2), .second] [(.double d2)])) (by intro t k; exact XS.dloadN X1.here hx rfl (hb hby d2_8) rfl k) ?_
  refine go (T' := T1) (f' := (mkF m 10 #[.val (.ref a0), .val (.ref a1), .val (.double d2), .second] [(.double (0 : UInt64)), (.double d2)])) (by intro t k; exact XS.dconst0 X1.here hx rfl (hb hby d2_9) rfl k) ?_
  refine go (T' := T1) (f' := (mkF m 11 #[.val (.ref a0), .val (.ref a1), .val (.double d2), .second] [(.int (cmpValue (FP.dcmp d2 (0 : UInt64)) .l))])) (by intro t k; exact XS.dcmpS X1.here hx rfl (hb hby d2_10) rfl rfl k) ?_
  refine go (T' := T1) (f' := (mkF m 14 #[.val (.ref a0), .val (.ref a1), .val (.double d2), .second] [])) (by intro t k; exact XS.ifNo X1.here hx rfl (hb hby d2_11) rfl ((if0 _ _).trans (flt (hA : ¬ ((cmpValue (FP.dcmp d2 (0 : UInt64)) .l) < (0 : Int32)))).1) k) ?_
  refine go (T' := T1) (f' := (mkF m 15 #[.val (.ref a0), .val (.ref a1), .val (.double d2), .second] [(.double d2)])) (by intro t k; exact XS.dloadN X1.here hx rfl (hb hby d2_14) rfl k) ?_
  refine go (T' := T1) (f' := (mkF m 16 #[.val (.ref a0), .val (.ref a1), .val (.double d2), .second] [(.double (4607182418800017408 : UInt64)), (.double d2)])) (by intro t k; exact XS.dconst1 X1.here hx rfl (hb hby d2_15) rfl k) ?_
  refine go (T' := T1) (f' := (mkF m 17 #[.val (.ref a0), .val (.ref a1), .val (.double d2), .second] [(.int (cmpValue (FP.dcmp d2 (4607182418800017408 : UInt64)) .g))])) (by intro t k; exact XS.dcmpS X1.here hx rfl (hb hby d2_16) rfl rfl k) ?_
  refine go (T' := T1) (f' := (mkF m 38 #[.val (.ref a0), .val (.ref a1), .val (.double d2), .second] [])) (by intro t k; exact XS.ifYes X1.here hx rfl (pc0 := 17) (pc' := 38) rfl (hb hby d2_17) rfl ((if0 _ _).trans (flt (hB : ¬ ((0 : Int32) < (cmpValue (FP.dcmp d2 (4607182418800017408 : UInt64)) .g)))).2.2.2) (by decide) (by decide) k) ?_
  refine go (T' := T1) (f' := (mkF m 39 #[.val (.ref a0), .val (.ref a1), .val (.double d2), .second] [(.ref a0)])) (by intro t k; exact XS.aloadN X1.here hx rfl (hb hby d2_38) rfl rfl k) ?_
  refine go (T' := T1) (f' := (mkF m 40 #[.val (.ref a0), .val (.ref a1), .val (.double d2), .second] [(.ref a1), (.ref a0)])) (by intro t k; exact XS.aloadN X1.here hx rfl (hb hby d2_39) rfl rfl k) ?_
  obtain ⟨T2, h2, X2, e2, W2, st2⟩ := putF X1 hx hZ hown (host := "") (Or.inl (hw _ (List.mem_of_getElem? (i := 22) rfl))) Via.refl e1 F_c E_a0 (Or.inr ⟨(hw _ (List.mem_of_getElem? (i := 23) rfl)), rfl, hnm⟩) (hw _ (List.mem_of_getElem? (i := 9) rfl)) (ty := (.object "com/example/petrel/petrel/model/Property$Comparison")) (by decide) rfl rfl (g := (mkF m 40 #[.val (.ref a0), .val (.ref a1), .val (.double d2), .second] [(.ref a1), (.ref a0)])) rfl rfl (hb hby d2_40)
  have K2 : Keep h0 h2 [a0] := Keep.of_wr W2
  have F2_a0_comparison : Fld Z h2 a0 "com/example/petrel/petrel/model/Property$Threshold" "comparison" "Lcom/example/petrel/petrel/model/Property$Comparison;" (.ref a1) := F_c.same W2
  have F2_a0_bound := Fld.other W2 F_b (Or.inr (slot_ne (Or.inr (hw _ (List.mem_of_getElem? (i := 25) rfl))) (Or.inr (hw _ (List.mem_of_getElem? (i := 23) rfl))) (by decide) (t := .double) (t' := (.object "com/example/petrel/petrel/model/Property$Comparison")) (by decide) (by decide)))
  have N2 := Fr.snoc X2 N1 g_a0
  have E2_a0 := Exa.keep E_a0 K2
  have E2_a1 := Exa.keep E_a1 K2
  have Z2 : n0 ≤ h2.size := Nat.le_trans Z0 K2.1
  have KK2 : Keep h0 h2 [a0] := (Keep.refl _ _).trans K2 (allS (Or.inl (List.mem_of_getElem? (i := 0) rfl)) all0)
  refine go st2 ?_
  show Run _ _ _ _ _ _ _ T2 (mkF m 43 #[.val (.ref a0), .val (.ref a1), .val (.double d2), .second] [])
  refine go (T' := T2) (f' := (mkF m 44 #[.val (.ref a0), .val (.ref a1), .val (.double d2), .second] [(.ref a0)])) (by intro t k; exact XS.aloadN X2.here hx rfl (hb hby d2_43) rfl rfl k) ?_
  refine go (T' := T2) (f' := (mkF m 45 #[.val (.ref a0), .val (.ref a1), .val (.double d2), .second] [(.double d2), (.ref a0)])) (by intro t k; exact XS.dloadN X2.here hx rfl (hb hby d2_44) rfl k) ?_
  obtain ⟨T3, h3, X3, e3, W3, st3⟩ := putF X2 hx hZ hown (host := "") (Or.inl (hw _ (List.mem_of_getElem? (i := 24) rfl))) Via.refl e2 F2_a0_bound E2_a0 (Or.inr ⟨(hw _ (List.mem_of_getElem? (i := 25) rfl)), rfl, hnm⟩) (hw _ (List.mem_of_getElem? (i := 9) rfl)) (ty := .double) (by decide) rfl rfl (g := (mkF m 45 #[.val (.ref a0), .val (.ref a1), .val (.double d2), .second] [(.double d2), (.ref a0)])) rfl rfl (hb hby d2_45)
  have K3 : Keep h2 h3 [a0] := Keep.of_wr W3
  have F3_a0_comparison := Fld.other W3 F2_a0_comparison (Or.inr (slot_ne (Or.inr (hw _ (List.mem_of_getElem? (i := 23) rfl))) (Or.inr (hw _ (List.mem_of_getElem? (i := 25) rfl))) (by decide) (t := (.object "com/example/petrel/petrel/model/Property$Comparison")) (t' := .double) (by decide) (by decide)))
  have F3_a0_bound : Fld Z h3 a0 "com/example/petrel/petrel/model/Property$Threshold" "bound" "D" (.double d2) := F2_a0_bound.same W3
  have N3 := Fr.snoc X3 N2 g_a0
  have E3_a0 := Exa.keep E2_a0 K3
  have E3_a1 := Exa.keep E2_a1 K3
  have Z3 : n0 ≤ h3.size := Nat.le_trans Z2 K3.1
  have KK3 : Keep h0 h3 [a0] := KK2.trans K3 (allS (Or.inl (List.mem_of_getElem? (i := 0) rfl)) all0)
  refine go st3 ?_
  show Run _ _ _ _ _ _ _ T3 (mkF m 48 #[.val (.ref a0), .val (.ref a1), .val (.double d2), .second] [])
  refine retV X3 hx Bd.returns (hb hby d2_48) hlk (by decide) (by decide) ?_
  show Q2 Z a0 a1 d2 h0 n0 _ T3.heap _
  rw [e3]
  exact ⟨rfl, N3, KK3, F3_a0_bound⟩
theorem d5_0 : decode prog_90_method_2_code 0 = .ok (.aload_n 0, 1) := by decide +kernel
theorem d5_1 : decode prog_90_method_2_code 1 = .ok (.getfield 28, 3) := by decide +kernel
theorem d5_4 : decode prog_90_method_2_code 4 = .ok (.dconst 0, 1) := by decide +kernel
theorem d5_5 : decode prog_90_method_2_code 5 = .ok (.dcmp .l, 1) := by decide +kernel
theorem d5_6 : decode prog_90_method_2_code 6 = .ok (.ifCond .eq 12, 3) := by decide +kernel
theorem d5_18 : decode prog_90_method_2_code 18 = .ok (.iconst 1, 1) := by decide +kernel
theorem d5_19 : decode prog_90_method_2_code 19 = .ok (.goto 4, 3) := by decide +kernel
theorem d5_9 : decode prog_90_method_2_code 9 = .ok (.aload_n 0, 1) := by decide +kernel
theorem d5_23 : decode prog_90_method_2_code 23 = .ok (.ireturn, 1) := by decide +kernel
theorem d5_10 : decode prog_90_method_2_code 10 = .ok (.getfield 28, 3) := by decide +kernel
theorem d5_13 : decode prog_90_method_2_code 13 = .ok (.dconst 1, 1) := by decide +kernel
theorem d5_14 : decode prog_90_method_2_code 14 = .ok (.dcmp .l, 1) := by decide +kernel
theorem d5_15 : decode prog_90_method_2_code 15 = .ok (.ifCond .ne 7, 3) := by decide +kernel
theorem d5_22 : decode prog_90_method_2_code 22 = .ok (.iconst 0, 1) := by decide +kernel
theorem ef_5 (m : MethodId) (x0 : Addr) : entryFrame m #[(.ref x0)] 1 = mkF m 0 #[.val (.ref x0)] [] := by first | (simp [entryFrame, mkF, argsToLocals, Value.category]; done) | rfl
def Q5 (Z : State) (a0 : Addr) (x : UInt64) (q : Int32) (h0 : Heap) (n0 : Nat) (v : Option Value) (h : Heap) (L : List Loc) : Prop := v = some (.int q) ∧ Fr n0 L ∧ h = h0
set_option maxRecDepth 65536 in
set_option maxHeartbeats 40000000 in
theorem rm5 (l : Launch) (Z : State) (aw : Array Value) (hw : ∀ d ∈ tables_1, d.before aw Z = true) (ws : List Jvm.Cond) (a0 : Addr) (x : UInt64) (q : Int32) (h0 : Heap) (n0 : Nat) (Z0 : n0 ≤ h0.size) (F_b : Fld Z h0 a0 "com/example/petrel/petrel/model/Property$Threshold" "bound" "D" (.double x)) (hq : (if cmpValue (FP.dcmp x (0 : UInt64)) .l = (0 : Int32) then (1 : Int32) else (if cmpValue (FP.dcmp x (4607182418800017408 : UInt64)) .l = (0 : Int32) then (1 : Int32) else (0 : Int32))) = q) :
    MetFree l (⟨"com/example/petrel/petrel/model/Property$Threshold", "isQualitative", "()Z"⟩ : MethodName) (head1 (Jvm.Cond.code (⟨"com/example/petrel/petrel/model/Property$Threshold", "isQualitative", "()Z"⟩ : MethodName) prog_90_method_2_code 1 (some .boolean) :: ws) ({ frames := 0, cells := 0, slots := 0, locals := 0 } : Room)) (fun a U => a = #[(.ref a0)] ∧ Z.Warmed39 U.vm ∧ U.heap = h0) (fun _ _ _ _ _ => True) (fun _ U o U' => ∃ v L, o = .returned v ∧ Q5 Z a0 x q h0 n0 v U'.heap L ∧ FrameEnd U o U' L ({ frames := 0, cells := 0, slots := 0, locals := 0 } : Room).cells ({ frames := 0, cells := 0, slots := 0, locals := 0 } : Room).slots) := by
  refine MetFree.of_bodySF (plainFor_of_name pn_2) hisR ?_
  intro p e s m args below meth c s₁ Bd hml0 hP hK
  obtain ⟨rfl, hZ, hh⟩ := hP
  have hx := Bd.exec
  have hby := Bd.bytes
  have hml : c.maxLocals = 1 := hml0
  have hown : s.vm.findClass "com/example/petrel/petrel/model/Property$Threshold" = some m.cls := findClass_of_methodNamed Bd.named
  have hnm := (name_of_methodNamed Bd.named Bd.method).1
  have hlk : meth.locks = false := BodyLoose.notSynchronized Bd
  have X0 : Stand p l e ({ frames := 0, cells := 0, slots := 0, locals := 0 } : Room) s m #[(.ref a0)] below meth c s₁ [] 0 0 := Stand.of_body Bd
  have e0 : s₁.heap = h0 := by rw [← hh, Bd.state]; rfl
  have N0 := Fr.nil n0
  show Run p e s below (Q5 Z a0 x q h0 n0) ({ frames := 0, cells := 0, slots := 0, locals := 0 } : Room).cells ({ frames := 0, cells := 0, slots := 0, locals := 0 } : Room).slots s₁ (entryFrame m #[(.ref a0)] 1)
  rw [ef_5]
  show Run _ _ _ _ _ _ _ s₁ (mkF m 0 #[.val (.ref a0)] [])
  refine go (T' := s₁) (f' := (mkF m 1 #[.val (.ref a0)] [(.ref a0)])) (by intro t k; exact XS.aloadN X0.here hx rfl (hb hby d5_0) rfl rfl k) ?_
  obtain ⟨T1, X1, e1, st1⟩ := getF X0 hx hZ hown (host := "") (Or.inl (hw _ (List.mem_of_getElem? (i := 24) rfl))) Via.refl e0 F_b (g := (mkF m 1 #[.val (.ref a0)] [(.ref a0)])) rfl rfl (hb hby d5_1)
  refine go st1 ?_
  show Run _ _ _ _ _ _ _ T1 (mkF m 4 #[.val (.ref a0)] [(.double x)])
  refine go (T' := T1) (f' := (mkF m 5 #[.val (.ref a0)] [(.double (0 : UInt64)), (.double x)])) (by intro t k; exact XS.dconst0 X1.here hx rfl (hb hby d5_4) rfl k) ?_
  refine go (T' := T1) (f' := (mkF m 6 #[.val (.ref a0)] [(.int (cmpValue (FP.dcmp x (0 : UInt64)) .l))])) (by intro t k; exact XS.dcmpS X1.here hx rfl (hb hby d5_5) rfl rfl k) ?_
  by_cases hc6 : (cmpValue (FP.dcmp x (0 : UInt64)) .l) = (0 : Int32)
  · refine go (T' := T1) (f' := (mkF m 18 #[.val (.ref a0)] [])) (by intro t k; exact XS.ifYes X1.here hx rfl (pc0 := 6) (pc' := 18) rfl (hb hby d5_6) rfl ((if0 _ _).trans (teq hc6).1) (by decide) (by decide) k) ?_
    refine go (T' := T1) (f' := (mkF m 19 #[.val (.ref a0)] [(.int (1 : Int32))])) (by intro t k; exact XS.iconst X1.here hx rfl (hb hby d5_18) k) ?_
    refine go (T' := T1) (f' := (mkF m 23 #[.val (.ref a0)] [(.int (1 : Int32))])) (by intro t k; exact XS.goto X1.here hx rfl (pc0 := 19) (pc' := 23) rfl (hb hby d5_19) (by decide) (by decide) k) ?_
    refine retZ X1 hx (t := .boolean) Bd.returns (by simp) (hb hby d5_23) hlk (by decide) (by decide) ?_
    show Q5 Z a0 x q h0 n0 _ T1.heap _
    rw [e1]
    have hv' : (nar .boolean (1 : Int32)) = q := by
      rw [← hq]
      subst_vars
      (repeat' split) <;> first | rfl | contradiction | (simp_all; done)
    have hv : (some (.int (nar .boolean (1 : Int32))) : Option Value) = some (.int q) := congrArg (fun z => (some (.int z) : Option Value)) hv'
    exact ⟨hv, N0, rfl⟩
  · refine go (T' := T1) (f' := (mkF m 9 #[.val (.ref a0)] [])) (by intro t k; exact XS.ifNo X1.here hx rfl (hb hby d5_6) rfl ((if0 _ _).trans (feq hc6).1) k) ?_
    refine go (T' := T1) (f' := (mkF m 10 #[.val (.ref a0)] [(.ref a0)])) (by intro t k; exact XS.aloadN X1.here hx rfl (hb hby d5_9) rfl rfl k) ?_
    obtain ⟨T2, X2, e2, st2⟩ := getF X1 hx hZ hown (host := "") (Or.inl (hw _ (List.mem_of_getElem? (i := 24) rfl))) Via.refl e1 F_b (g := (mkF m 10 #[.val (.ref a0)] [(.ref a0)])) rfl rfl (hb hby d5_10)
    refine go st2 ?_
    show Run _ _ _ _ _ _ _ T2 (mkF m 13 #[.val (.ref a0)] [(.double x)])
    refine go (T' := T2) (f' := (mkF m 14 #[.val (.ref a0)] [(.double (4607182418800017408 : UInt64)), (.double x)])) (by intro t k; exact XS.dconst1 X2.here hx rfl (hb hby d5_13) rfl k) ?_
    refine go (T' := T2) (f' := (mkF m 15 #[.val (.ref a0)] [(.int (cmpValue (FP.dcmp x (4607182418800017408 : UInt64)) .l))])) (by intro t k; exact XS.dcmpS X2.here hx rfl (hb hby d5_14) rfl rfl k) ?_
    obtain ⟨z3, hz3⟩ : ∃ z : Int32, z = (if (cmpValue (FP.dcmp x (4607182418800017408 : UInt64)) .l) = (0 : Int32) then (1 : Int32) else (0 : Int32)) := ⟨_, rfl⟩
    have J15 : Run p e s below (Q5 Z a0 x q h0 n0) ({ frames := 0, cells := 0, slots := 0, locals := 0 } : Room).cells ({ frames := 0, cells := 0, slots := 0, locals := 0 } : Room).slots T2 (mkF m 23 #[.val (.ref a0)] [(.int z3)]) := by
      show Run _ _ _ _ _ _ _ T2 (mkF m 23 #[.val (.ref a0)] [(.int z3)])
      refine retZ X2 hx (t := .boolean) Bd.returns (by simp) (hb hby d5_23) hlk (by decide) (by decide) ?_
      show Q5 Z a0 x q h0 n0 _ T2.heap _
      rw [e2]
      have hv' : (nar .boolean z3) = q := by
        rw [← hq]
        subst_vars
        (repeat' split) <;> first | rfl | contradiction | (simp_all; done)
      have hv : (some (.int (nar .boolean z3)) : Option Value) = some (.int q) := congrArg (fun z => (some (.int z) : Option Value)) hv'
      exact ⟨hv, N0, rfl⟩
    show Run _ _ _ _ _ _ _ T2 (mkF m 15 #[.val (.ref a0)] [(.int (cmpValue (FP.dcmp x (4607182418800017408 : UInt64)) .l))])
    by_cases hc15 : (cmpValue (FP.dcmp x (4607182418800017408 : UInt64)) .l) = (0 : Int32)
    · refine go (T' := T2) (f' := (mkF m 18 #[.val (.ref a0)] [])) (by intro t k; exact XS.ifNo X2.here hx rfl (hb hby d5_15) rfl ((if0 _ _).trans (teq hc15).2) k) ?_
      refine go (T' := T2) (f' := (mkF m 19 #[.val (.ref a0)] [(.int (1 : Int32))])) (by intro t k; exact XS.iconst X2.here hx rfl (hb hby d5_18) k) ?_
      refine go (T' := T2) (f' := (mkF m 23 #[.val (.ref a0)] [(.int (1 : Int32))])) (by intro t k; exact XS.goto X2.here hx rfl (pc0 := 19) (pc' := 23) rfl (hb hby d5_19) (by decide) (by decide) k) ?_
      have ez3 : z3 = (1 : Int32) := (hz3).trans (if_pos hc15)
      subst ez3
      exact J15
    · refine go (T' := T2) (f' := (mkF m 22 #[.val (.ref a0)] [])) (by intro t k; exact XS.ifYes X2.here hx rfl (pc0 := 15) (pc' := 22) rfl (hb hby d5_15) rfl ((if0 _ _).trans (feq hc15).2) (by decide) (by decide) k) ?_
      refine go (T' := T2) (f' := (mkF m 23 #[.val (.ref a0)] [(.int (0 : Int32))])) (by intro t k; exact XS.iconst X2.here hx rfl (hb hby d5_22) k) ?_
      have ez3 : z3 = (0 : Int32) := (hz3).trans (if_neg hc15)
      subst ez3
      exact J15
theorem pd_28I29Lcom2fexample2fpetrel2fpetrel2fmodel2fProperty24Comparison3b : parseMethodDescriptor "(I)Lcom/example/petrel/petrel/model/Property$Comparison;" = some ⟨[.int], some (.object "com/example/petrel/petrel/model/Property$Comparison")⟩ := by decide +kernel
theorem pd_28Lcom2fexample2fpetrel2fpetrel2fmodel2fProperty24Comparison3bD29V : parseMethodDescriptor "(Lcom/example/petrel/petrel/model/Property$Comparison;D)V" = some ⟨[(.object "com/example/petrel/petrel/model/Property$Comparison"), .double], none⟩ := by decide +kernel
theorem pd_2829Z : parseMethodDescriptor "()Z" = some ⟨[], some .boolean⟩ := by decide +kernel
theorem ef_0 (m : MethodId) (x0 : Int32) (x1 : Int32) (x2 : Int32) : entryFrame m #[(.int x0), (.int x1), (.int x2)] maxLocals = mkF m 0 #[.val (.int x0), .val (.int x1), .val (.int x2), .unset, .unset, .unset, .unset, .unset, .unset, .unset] [] := by first | (simp [entryFrame, mkF, argsToLocals, Value.category, maxLocals]; done) | rfl
def Q0 (Z : State) (p0 : Int32) (p1 : Int32) (p2 : Int32) (c0 c1 c2 c3 : Addr) (h0 : Heap) (n0 : Nat) (v : Option Value) (h : Heap) (L : List Loc) : Prop := v = some (.int (1 : Int32)) ∧ Fr n0 L
set_option maxRecDepth 65536 in
set_option maxHeartbeats 40000000 in
theorem rm0 (l : Launch) (Z : State) (aw : Array Value) (hw : ∀ d ∈ tables_1, d.before aw Z = true) (ws : List Jvm.Cond) (p0 : Int32) (p1 : Int32) (p2 : Int32) (c0 c1 c2 c3 : Addr) (h0 : Heap) (n0 : Nat) (Z0 : n0 ≤ h0.size) (O0 : Old Z n0 h0) (S_0 : Sta Z Z.heap "com/example/petrel/petrel/model/Property$Comparison" "AT_MOST" "Lcom/example/petrel/petrel/model/Property$Comparison;" (.ref c0)) (E_0 : Exa Z Z.heap c0 "com/example/petrel/petrel/model/Property$Comparison") (S_1 : Sta Z Z.heap "com/example/petrel/petrel/model/Property$Comparison" "BELOW" "Lcom/example/petrel/petrel/model/Property$Comparison;" (.ref c1)) (E_1 : Exa Z Z.heap c1 "com/example/petrel/petrel/model/Property$Comparison") (S_2 : Sta Z Z.heap "com/example/petrel/petrel/model/Property$Comparison" "ABOVE" "Lcom/example/petrel/petrel/model/Property$Comparison;" (.ref c2)) (E_2 : Exa Z Z.heap c2 "com/example/petrel/petrel/model/Property$Comparison") (S_3 : Sta Z Z.heap "com/example/petrel/petrel/model/Property$Comparison" "AT_LEAST" "Lcom/example/petrel/petrel/model/Property$Comparison;" (.ref c3)) (E_3 : Exa Z Z.heap c3 "com/example/petrel/petrel/model/Property$Comparison") :
    MetFree l x (head1 (Jvm.Cond.code x code maxLocals ret :: ws) room_1) (fun a U => a = #[(.int p0), (.int p1), (.int p2)] ∧ Z.Warmed39 U.vm ∧ U.heap = h0) (fun _ _ _ _ _ => True) (fun _ U o U' => ∃ v L, o = .returned v ∧ Q0 Z p0 p1 p2 c0 c1 c2 c3 h0 n0 v U'.heap L ∧ FrameEnd U o U' L room_1.cells room_1.slots) := by
  refine MetFree.of_bodySF (plainFor_of_name pn_1) hisR ?_
  intro p e s m args below meth c s₁ Bd hml0 hP hK
  obtain ⟨rfl, hZ, hh⟩ := hP
  have hx := Bd.exec
  have hby := Bd.bytes
  have hml : c.maxLocals = 10 := hml0
  have hown : s.vm.findClass "com/example/petrel/petrel/model/ThresholdIsQualitativePinLaw" = some m.cls := findClass_of_methodNamed Bd.named
  have hnm := (name_of_methodNamed Bd.named Bd.method).1
  have hlk : meth.locks = false := BodyLoose.notSynchronized Bd
  have X0 : Stand p l e room_1 s m #[(.int p0), (.int p1), (.int p2)] below meth c s₁ [] 0 0 := Stand.of_body Bd
  have e0 : s₁.heap = h0 := by rw [← hh, Bd.state]; rfl
  have N0 := Fr.nil n0
  show Run p e s below (Q0 Z p0 p1 p2 c0 c1 c2 c3 h0 n0) room_1.cells room_1.slots s₁ (entryFrame m #[(.int p0), (.int p1), (.int p2)] maxLocals)
  rw [ef_0]
  show Run _ _ _ _ _ _ _ s₁ (mkF m 0 #[.val (.int p0), .val (.int p1), .val (.int p2), .unset, .unset, .unset, .unset, .unset, .unset, .unset] [])
  refine go (T' := s₁) (f' := (mkF m 1 #[.val (.int p0), .val (.int p1), .val (.int p2), .unset, .unset, .unset, .unset, .unset, .unset, .unset] [(.int (1 : Int32))])) (by intro t k; exact XS.iconst X0.here hx rfl (hb hby at_0) k) ?_
  refine go (T' := s₁) (f' := (mkF m 2 #[.val (.int p0), .val (.int p1), .val (.int p2), .unset, .unset, .unset, .unset, .unset, .unset, .unset] [(.int p0), (.int (1 : Int32))])) (by intro t k; exact XS.iloadN X0.here hx rfl (hb hby at_1) rfl k) ?_
  refine go (T' := s₁) (f' := (mkF m 4 #[.val (.int p0), .val (.int p1), .val (.int p2), .unset, .unset, .unset, .unset, .unset, .unset, .unset] [(.int (2147483647 : Int32)), (.int p0), (.int (1 : Int32))])) (by intro t k; exact X0.ldcInt hx hown (mvT hZ (hw _ (List.mem_of_getElem? (i := 0) rfl))) (g := (mkF m 2 #[.val (.int p0), .val (.int p1), .val (.int p2), .unset, .unset, .unset, .unset, .unset, .unset, .unset] [(.int p0), (.int (1 : Int32))])) rfl (hb hby at_2) _ k) ?_
  refine go (T' := s₁) (f' := (mkF m 5 #[.val (.int p0), .val (.int p1), .val (.int p2), .unset, .unset, .unset, .unset, .unset, .unset, .unset] [(.int (p0 &&& (2147483647 : Int32))), (.int (1 : Int32))])) (by intro t k; exact XS.iand X0.here hx rfl (hb hby at_4) rfl k) ?_
  refine go (T' := s₁) (f' := (mkF m 8 #[.val (.int p0), .val (.int p1), .val (.int p2), .unset, .unset, .unset, .unset, .unset, .unset, .unset] [(.int (1000 : Int32)), (.int (p0 &&& (2147483647 : Int32))), (.int (1 : Int32))])) (by intro t k; exact XS.sipush X0.here hx rfl (hb hby at_5) k) ?_
  refine go (T' := s₁) (f' := (mkF m 9 #[.val (.int p0), .val (.int p1), .val (.int p2), .unset, .unset, .unset, .unset, .unset, .unset, .unset] [(.int ((p0 &&& (2147483647 : Int32)) % (1000 : Int32))), (.int (1 : Int32))])) (by intro t k; exact iremM X0 hx rfl (hb hby at_8) rfl (by decide) k) ?_
  refine go (T' := s₁) (f' := (mkF m 10 #[.val (.int p0), .val (.int p1), .val (.int p2), .unset, .unset, .unset, .unset, .unset, .unset, .unset] [(.int ((1 : Int32) + ((p0 &&& (2147483647 : Int32)) % (1000 : Int32))))])) (by intro t k; exact XS.iadd X0.here hx rfl (hb hby at_9) rfl k) ?_
  refine go (T' := s₁) (f' := (mkF m 11 #[.val (.int p0), .val (.int p1), .val (.int p2), .val (.int ((1 : Int32) + ((p0 &&& (2147483647 : Int32)) % (1000 : Int32)))), .unset, .unset, .unset, .unset, .unset, .unset] [])) (by intro t k; exact XS.istoreN X0.here hx rfl (hb hby at_10) rfl (l' := #[.val (.int p0), .val (.int p1), .val (.int p2), .val (.int ((1 : Int32) + ((p0 &&& (2147483647 : Int32)) % (1000 : Int32)))), .unset, .unset, .unset, .unset, .unset, .unset]) rfl k) ?_
  obtain ⟨w3, hw3⟩ : ∃ z : Int32, z = ((1 : Int32) + ((p0 &&& (2147483647 : Int32)) % (1000 : Int32))) := ⟨_, rfl⟩
  rw [← hw3]
  show Run _ _ _ _ _ _ _ s₁ (mkF m 11 #[.val (.int p0), .val (.int p1), .val (.int p2), .val (.int w3), .unset, .unset, .unset, .unset, .unset, .unset] [])
  refine go (T' := s₁) (f' := (mkF m 12 #[.val (.int p0), .val (.int p1), .val (.int p2), .val (.int w3), .unset, .unset, .unset, .unset, .unset, .unset] [(.int p1)])) (by intro t k; exact XS.iloadN X0.here hx rfl (hb hby at_11) rfl k) ?_
  have hg3 := own_w3 hw3
  show Run _ _ _ _ _ _ _ s₁ (mkF m 12 #[.val (.int p0), .val (.int p1), .val (.int p2), .val (.int w3), .unset, .unset, .unset, .unset, .unset, .unset] [(.int p1)])
  refine go (T' := s₁) (f' := (mkF m 14 #[.val (.int p0), .val (.int p1), .val (.int p2), .val (.int w3), .unset, .unset, .unset, .unset, .unset, .unset] [(.int (2147483647 : Int32)), (.int p1)])) (by intro t k; exact X0.ldcInt hx hown (mvT hZ (hw _ (List.mem_of_getElem? (i := 0) rfl))) (g := (mkF m 12 #[.val (.int p0), .val (.int p1), .val (.int p2), .val (.int w3), .unset, .unset, .unset, .unset, .unset, .unset] [(.int p1)])) rfl (hb hby at_12) _ k) ?_
  refine go (T' := s₁) (f' := (mkF m 15 #[.val (.int p0), .val (.int p1), .val (.int p2), .val (.int w3), .unset, .unset, .unset, .unset, .unset, .unset] [(.int (p1 &&& (2147483647 : Int32)))])) (by intro t k; exact XS.iand X0.here hx rfl (hb hby at_14) rfl k) ?_
  refine go (T' := s₁) (f' := (mkF m 16 #[.val (.int p0), .val (.int p1), .val (.int p2), .val (.int w3), .unset, .unset, .unset, .unset, .unset, .unset] [(.int w3), (.int (p1 &&& (2147483647 : Int32)))])) (by intro t k; exact XS.iloadN X0.here hx rfl (hb hby at_15) rfl k) ?_
  refine go (T' := s₁) (f' := (mkF m 17 #[.val (.int p0), .val (.int p1), .val (.int p2), .val (.int w3), .unset, .unset, .unset, .unset, .unset, .unset] [(.int (1 : Int32)), (.int w3), (.int (p1 &&& (2147483647 : Int32)))])) (by intro t k; exact XS.iconst X0.here hx rfl (hb hby at_16) k) ?_
  refine go (T' := s₁) (f' := (mkF m 18 #[.val (.int p0), .val (.int p1), .val (.int p2), .val (.int w3), .unset, .unset, .unset, .unset, .unset, .unset] [(.int (w3 + (1 : Int32))), (.int (p1 &&& (2147483647 : Int32)))])) (by intro t k; exact XS.iadd X0.here hx rfl (hb hby at_17) rfl k) ?_
  refine go (T' := s₁) (f' := (mkF m 19 #[.val (.int p0), .val (.int p1), .val (.int p2), .val (.int w3), .unset, .unset, .unset, .unset, .unset, .unset] [(.int ((p1 &&& (2147483647 : Int32)) % (w3 + (1 : Int32))))])) (by intro t k; exact iremM X0 hx rfl (hb hby at_18) rfl (own_nz3 hg3) k) ?_
  refine go (T' := s₁) (f' := (mkF m 21 #[.val (.int p0), .val (.int p1), .val (.int p2), .val (.int w3), .val (.int ((p1 &&& (2147483647 : Int32)) % (w3 + (1 : Int32)))), .unset, .unset, .unset, .unset, .unset] [])) (by intro t k; exact XS.istore X0.here hx rfl (hb hby at_19) rfl (l' := #[.val (.int p0), .val (.int p1), .val (.int p2), .val (.int w3), .val (.int ((p1 &&& (2147483647 : Int32)) % (w3 + (1 : Int32)))), .unset, .unset, .unset, .unset, .unset]) rfl k) ?_
  obtain ⟨w4, hw4⟩ : ∃ z : Int32, z = ((p1 &&& (2147483647 : Int32)) % (w3 + (1 : Int32))) := ⟨_, rfl⟩
  rw [← hw4]
  show Run _ _ _ _ _ _ _ s₁ (mkF m 21 #[.val (.int p0), .val (.int p1), .val (.int p2), .val (.int w3), .val (.int w4), .unset, .unset, .unset, .unset, .unset] [])
  refine go (T' := s₁) (f' := (mkF m 23 #[.val (.int p0), .val (.int p1), .val (.int p2), .val (.int w3), .val (.int w4), .unset, .unset, .unset, .unset, .unset] [(.int w4)])) (by intro t k; exact XS.iload X0.here hx rfl (hb hby at_21) rfl k) ?_
  have hg4 := own_w4 hg3 hw4
  show Run _ _ _ _ _ _ _ s₁ (mkF m 23 #[.val (.int p0), .val (.int p1), .val (.int p2), .val (.int w3), .val (.int w4), .unset, .unset, .unset, .unset, .unset] [(.int w4)])
  refine go (T' := s₁) (f' := (mkF m 24 #[.val (.int p0), .val (.int p1), .val (.int p2), .val (.int w3), .val (.int w4), .unset, .unset, .unset, .unset, .unset] [(.double (FP.i2d w4))])) (by intro t k; exact XS.i2dS X0.here hx rfl (hb hby at_23) rfl rfl k) ?_
  refine go (T' := s₁) (f' := (mkF m 25 #[.val (.int p0), .val (.int p1), .val (.int p2), .val (.int w3), .val (.int w4), .unset, .unset, .unset, .unset, .unset] [(.int w3), (.double (FP.i2d w4))])) (by intro t k; exact XS.iloadN X0.here hx rfl (hb hby at_24) rfl k) ?_
  refine go (T' := s₁) (f' := (mkF m 26 #[.val (.int p0), .val (.int p1), .val (.int p2), .val (.int w3), .val (.int w4), .unset, .unset, .unset, .unset, .unset] [(.double (FP.i2d w3)), (.double (FP.i2d w4))])) (by intro t k; exact XS.i2dS X0.here hx rfl (hb hby at_25) rfl rfl k) ?_
  refine go (T' := s₁) (f' := (mkF m 27 #[.val (.int p0), .val (.int p1), .val (.int p2), .val (.int w3), .val (.int w4), .unset, .unset, .unset, .unset, .unset] [(.double (FP.ddiv (FP.i2d w4) (FP.i2d w3)))])) (by intro t k; exact XS.ddivS X0.here hx rfl (hb hby at_26) rfl (own_dnn hg3 hg4) rfl k) ?_
  refine go (T' := s₁) (f' := (mkF m 29 #[.val (.int p0), .val (.int p1), .val (.int p2), .val (.int w3), .val (.int w4), .val (.double (FP.ddiv (FP.i2d w4) (FP.i2d w3))), .second, .unset, .unset, .unset] [])) (by intro t k; exact XS.dstore X0.here hx rfl (hb hby at_27) rfl (l' := #[.val (.int p0), .val (.int p1), .val (.int p2), .val (.int w3), .val (.int w4), .val (.double (FP.ddiv (FP.i2d w4) (FP.i2d w3))), .second, .unset, .unset, .unset]) rfl k) ?_
  obtain ⟨u5, hu5⟩ : ∃ z : UInt64, z = (FP.ddiv (FP.i2d w4) (FP.i2d w3)) := ⟨_, rfl⟩
  rw [← hu5]
  show Run _ _ _ _ _ _ _ s₁ (mkF m 29 #[.val (.int p0), .val (.int p1), .val (.int p2), .val (.int w3), .val (.int w4), .val (.double u5), .second, .unset, .unset, .unset] [])
  refine go (T' := s₁) (f' := (mkF m 31 #[.val (.int p0), .val (.int p1), .val (.int p2), .val (.int w3), .val (.int w4), .val (.double u5), .second, .unset, .unset, .unset] [(.int w4)])) (by intro t k; exact XS.iload X0.here hx rfl (hb hby at_29) rfl k) ?_
  obtain ⟨z1, hz1⟩ : ∃ z : UInt64, z = (if w4 = (0 : Int32) then (if (p2 &&& (4 : Int32)) = (0 : Int32) then u5 else (FP.dneg u5)) else u5) := ⟨_, rfl⟩
  have J31 : Run p e s below (Q0 Z p0 p1 p2 c0 c1 c2 c3 h0 n0) room_1.cells room_1.slots s₁ (mkF m 45 #[.val (.int p0), .val (.int p1), .val (.int p2), .val (.int w3), .val (.int w4), .val (.double z1), .second, .unset, .unset, .unset] []) := by
    have hB3 := own_bnd hg3 hg4 hu5 hz1
    show Run _ _ _ _ _ _ _ s₁ (mkF m 45 #[.val (.int p0), .val (.int p1), .val (.int p2), .val (.int w3), .val (.int w4), .val (.double z1), .second, .unset, .unset, .unset] [])
    refine go (T' := s₁) (f' := (mkF m 46 #[.val (.int p0), .val (.int p1), .val (.int p2), .val (.int w3), .val (.int w4), .val (.double z1), .second, .unset, .unset, .unset] [(.int p2)])) (by intro t k; exact XS.iloadN X0.here hx rfl (hb hby at_45) rfl k) ?_
    refine go (T' := s₁) (f' := (mkF m 47 #[.val (.int p0), .val (.int p1), .val (.int p2), .val (.int w3), .val (.int w4), .val (.double z1), .second, .unset, .unset, .unset] [(.int (3 : Int32)), (.int p2)])) (by intro t k; exact XS.iconst X0.here hx rfl (hb hby at_46) k) ?_
    refine go (T' := s₁) (f' := (mkF m 48 #[.val (.int p0), .val (.int p1), .val (.int p2), .val (.int w3), .val (.int w4), .val (.double z1), .second, .unset, .unset, .unset] [(.int (p2 &&& (3 : Int32)))])) (by intro t k; exact XS.iand X0.here hx rfl (hb hby at_47) rfl k) ?_
    obtain ⟨_, _, ⟨T2, Lz2, kz2, nz2⟩, -, X2, ⟨Lc2, hQ2, lz2, yz2, zz2⟩, st2⟩ := Jvm.LawKit.callS X0 hx (y := (⟨"com/example/petrel/petrel/model/ThresholdIsQualitativePinLaw", "comparison", "(I)Lcom/example/petrel/petrel/model/Property$Comparison;"⟩ : MethodName)) hown (mvT hZ (hw _ (List.mem_of_getElem? (i := 1) rfl))) (mvT hZ (hw _ (List.mem_of_getElem? (i := 2) rfl))) (mvT hZ (hw _ (List.mem_of_getElem? (i := 3) rfl))) (mvT hZ (hw _ (List.mem_of_getElem? (i := 4) rfl))) (by decide) (backOf (W := 0) (rm1 l Z aw hw [] (p2 &&& (3 : Int32)) c0 c1 c2 c3 h0 n0 Z0 O0 S_0 E_0 S_1 E_1 S_2 E_2 S_3 E_3) hZ (hw _ (List.mem_of_getElem? (i := 4) rfl)) (hw _ (List.mem_of_getElem? (i := 3) rfl)) (by decide) (by decide)) (g := (mkF m 48 #[.val (.int p0), .val (.int p1), .val (.int p2), .val (.int w3), .val (.int w4), .val (.double z1), .second, .unset, .unset, .unset] [(.int (p2 &&& (3 : Int32)))])) rfl (by rw [hml]; rfl) (argsL := [(.int (p2 &&& (3 : Int32)))]) (rest := []) (lenOf pd_28I29Lcom2fexample2fpetrel2fpetrel2fmodel2fProperty24Comparison3b rfl) rfl (by show 2 * 0 + _ ≤ _; exact Nat.le_of_eq rfl) (hb hby at_48) (fun _ _ => ⟨rfl, e0, (by decide : 0 + 0 ≤ _), (by decide : 0 + 0 ≤ _)⟩)
    dsimp only [Pt.U, Pt.locs, Pt.cells, Pt.slots] at X2 lz2 yz2 zz2 st2 hQ2
    subst lz2 yz2 zz2
    obtain ⟨r2, rfl, hR2, N2q, e2⟩ := hQ2
    have N2 := Fr.app N0 N2q
    refine go st2 ?_
    show Run _ _ _ _ _ _ _ T2 (mkF m 51 #[.val (.int p0), .val (.int p1), .val (.int p2), .val (.int w3), .val (.int w4), .val (.double z1), .second, .unset, .unset, .unset] [(.ref r2)])
    refine go (T' := T2) (f' := (mkF m 53 #[.val (.int p0), .val (.int p1), .val (.int p2), .val (.int w3), .val (.int w4), .val (.double z1), .second, .val (.ref r2), .unset, .unset] [])) (by intro t k; exact XS.astore X2.here hx rfl (hb hby at_51) rfl rfl (l' := #[.val (.int p0), .val (.int p1), .val (.int p2), .val (.int w3), .val (.int w4), .val (.double z1), .second, .val (.ref r2), .unset, .unset]) rfl k) ?_
    obtain ⟨T3, h3, X3, e3, E3, A3, D3, -, st3⟩ := newO X2 hx hZ hown (hw _ (List.mem_of_getElem? (i := 8) rfl)) (hw _ (List.mem_of_getElem? (i := 9) rfl)) (hw _ (List.mem_of_getElem? (i := 10) rfl)) e2 (g := (mkF m 53 #[.val (.int p0), .val (.int p1), .val (.int p2), .val (.int w3), .val (.int w4), .val (.double z1), .second, .val (.ref r2), .unset, .unset] [])) rfl (hb hby at_53) (by decide) (by decide)
    obtain ⟨b3, g3⟩ : ∃ z, z = h0.size := ⟨_, rfl⟩
    rw [← g3] at A3 D3 st3
    have ne_c0_b3 : c0 ≠ b3 := Nat.ne_of_lt (Nat.lt_of_lt_of_eq (Exa.ext O0.2 E_0).lt g3.symm)
    have ne_c1_b3 : c1 ≠ b3 := Nat.ne_of_lt (Nat.lt_of_lt_of_eq (Exa.ext O0.2 E_1).lt g3.symm)
    have ne_c2_b3 : c2 ≠ b3 := Nat.ne_of_lt (Nat.lt_of_lt_of_eq (Exa.ext O0.2 E_2).lt g3.symm)
    have ne_c3_b3 : c3 ≠ b3 := Nat.ne_of_lt (Nat.lt_of_lt_of_eq (Exa.ext O0.2 E_3).lt g3.symm)
    have ne_r2_b3 : r2 ≠ b3 := Nat.ne_of_lt (Nat.lt_of_lt_of_eq hR2.lt g3.symm)
    have ge_b3 : n0 ≤ b3 := Nat.le_trans Z0 (Nat.le_of_eq g3.symm)
    have K3 : Keep h0 h3 [] := (Keep.refl _ _).ext E3
    have E3_c0 := Exa.keep (Exa.ext O0.2 E_0) K3
    have E3_c1 := Exa.keep (Exa.ext O0.2 E_1) K3
    have E3_c2 := Exa.keep (Exa.ext O0.2 E_2) K3
    have E3_c3 := Exa.keep (Exa.ext O0.2 E_3) K3
    have E3_r2 := Exa.keep hR2 K3
    have O3 : Old Z n0 h3 := O0.keep K3 all0
    have Z3 : n0 ≤ h3.size := Nat.le_trans Z0 K3.1
    have F3_b3_comparison : Fld Z h3 b3 "com/example/petrel/petrel/model/Property$Threshold" "comparison" "Lcom/example/petrel/petrel/model/Property$Comparison;" .null := D3 (Or.inr (hw _ (List.mem_of_getElem? (i := 23) rfl))) (ty := (.object "com/example/petrel/petrel/model/Property$Comparison")) (by decide)
    have F3_b3_bound : Fld Z h3 b3 "com/example/petrel/petrel/model/Property$Threshold" "bound" "D" (.double (0 : UInt64)) := D3 (Or.inr (hw _ (List.mem_of_getElem? (i := 25) rfl))) (ty := .double) (by decide)
    refine go st3 ?_
    show Run _ _ _ _ _ _ _ T3 (mkF m 56 #[.val (.int p0), .val (.int p1), .val (.int p2), .val (.int w3), .val (.int w4), .val (.double z1), .second, .val (.ref r2), .unset, .unset] [(.ref b3)])
    refine go (T' := T3) (f' := (mkF m 57 #[.val (.int p0), .val (.int p1), .val (.int p2), .val (.int w3), .val (.int w4), .val (.double z1), .second, .val (.ref r2), .unset, .unset] [(.ref b3), (.ref b3)])) (by intro t k; exact XS.dup X3.here hx rfl (hb hby at_56) rfl rfl k) ?_
    refine go (T' := T3) (f' := (mkF m 59 #[.val (.int p0), .val (.int p1), .val (.int p2), .val (.int w3), .val (.int w4), .val (.double z1), .second, .val (.ref r2), .unset, .unset] [(.ref r2), (.ref b3), (.ref b3)])) (by intro t k; exact XS.aload X3.here hx rfl (hb hby at_57) rfl rfl k) ?_
    refine go (T' := T3) (f' := (mkF m 61 #[.val (.int p0), .val (.int p1), .val (.int p2), .val (.int w3), .val (.int w4), .val (.double z1), .second, .val (.ref r2), .unset, .unset] [(.double z1), (.ref r2), (.ref b3), (.ref b3)])) (by intro t k; exact XS.dload X3.here hx rfl (hb hby at_59) rfl k) ?_
    obtain ⟨_, _, ⟨T4, Lz4, kz4, nz4⟩, -, X4, ⟨Lc4, hQ4, lz4, yz4, zz4⟩, st4⟩ := X3.specialBack hx (y := (⟨"com/example/petrel/petrel/model/Property$Threshold", "<init>", "(Lcom/example/petrel/petrel/model/Property$Comparison;D)V"⟩ : MethodName)) rfl hown (mvT hZ (hw _ (List.mem_of_getElem? (i := 11) rfl))) (mvT hZ (hw _ (List.mem_of_getElem? (i := 12) rfl))) (mvT hZ (hw _ (List.mem_of_getElem? (i := 13) rfl))) (by decide) (backOf (W := 1) (rm2 l Z aw hw [] b3 r2 z1  h3 n0 Z3 A3 F3_b3_comparison F3_b3_bound ge_b3 E3_r2 (Ne.symm ne_r2_b3) hB3.1 hB3.2.1) hZ (hw _ (List.mem_of_getElem? (i := 13) rfl)) (hw _ (List.mem_of_getElem? (i := 10) rfl)) (by decide) (by decide)) (g := (mkF m 61 #[.val (.int p0), .val (.int p1), .val (.int p2), .val (.int w3), .val (.int w4), .val (.double z1), .second, .val (.ref r2), .unset, .unset] [(.double z1), (.ref r2), (.ref b3), (.ref b3)])) rfl (by rw [hml]; rfl) (Steps.refl _) (a := b3) (argsL := [(.ref r2), (.double z1)]) (rest := [(.ref b3)]) (lenOf pd_28Lcom2fexample2fpetrel2fpetrel2fmodel2fProperty24Comparison3bD29V rfl) rfl (by show 2 * 0 + _ ≤ _; exact Nat.le_of_eq rfl) (hb hby at_61) (fun _ _ => ⟨rfl, e3, (by decide : 1 + 0 ≤ _), (by decide : 2 + 0 ≤ _)⟩)
    dsimp only [Pt.U, Pt.locs, Pt.cells, Pt.slots] at X4 lz4 yz4 zz4 st4 hQ4
    subst lz4 yz4 zz4
    obtain ⟨rfl, N4q, K4, Fb4⟩ := hQ4
    have E4_c0 := Exa.keep E3_c0 K4
    have E4_c1 := Exa.keep E3_c1 K4
    have E4_c2 := Exa.keep E3_c2 K4
    have E4_c3 := Exa.keep E3_c3 K4
    have E4_r2 := Exa.keep E3_r2 K4
    have E4_b3 := Exa.keep A3 K4
    have O4 : Old Z n0 T4.heap := O3.keep K4 (allS ge_b3 all0)
    have Z4 : n0 ≤ T4.heap.size := Nat.le_trans Z3 K4.1
    have N4 := Fr.app N2 N4q
    refine go (fun _ k => st4.trans k) ?_
    show Run _ _ _ _ _ _ _ T4 (mkF m 64 #[.val (.int p0), .val (.int p1), .val (.int p2), .val (.int w3), .val (.int w4), .val (.double z1), .second, .val (.ref r2), .unset, .unset] [(.ref b3)])
    refine go (T' := T4) (f' := (mkF m 66 #[.val (.int p0), .val (.int p1), .val (.int p2), .val (.int w3), .val (.int w4), .val (.double z1), .second, .val (.ref r2), .val (.ref b3), .unset] [])) (by intro t k; exact XS.astore X4.here hx rfl (hb hby at_64) rfl rfl (l' := #[.val (.int p0), .val (.int p1), .val (.int p2), .val (.int w3), .val (.int w4), .val (.double z1), .second, .val (.ref r2), .val (.ref b3), .unset]) rfl k) ?_
    refine go (T' := T4) (f' := (mkF m 68 #[.val (.int p0), .val (.int p1), .val (.int p2), .val (.int w3), .val (.int w4), .val (.double z1), .second, .val (.ref r2), .val (.ref b3), .unset] [(.int w4)])) (by intro t k; exact XS.iload X4.here hx rfl (hb hby at_66) rfl k) ?_
    obtain ⟨z5, hz5⟩ : ∃ z : Int32, z = (if w4 = (0 : Int32) then (1 : Int32) else (if w4 = w3 then (1 : Int32) else (0 : Int32))) := ⟨_, rfl⟩
    have J68 : Run p e s below (Q0 Z p0 p1 p2 c0 c1 c2 c3 h0 n0) room_1.cells room_1.slots T4 (mkF m 82 #[.val (.int p0), .val (.int p1), .val (.int p2), .val (.int w3), .val (.int w4), .val (.double z1), .second, .val (.ref r2), .val (.ref b3), .unset] [(.int z5)]) := by
      show Run _ _ _ _ _ _ _ T4 (mkF m 82 #[.val (.int p0), .val (.int p1), .val (.int p2), .val (.int w3), .val (.int w4), .val (.double z1), .second, .val (.ref r2), .val (.ref b3), .unset] [(.int z5)])
      refine go (T' := T4) (f' := (mkF m 84 #[.val (.int p0), .val (.int p1), .val (.int p2), .val (.int w3), .val (.int w4), .val (.double z1), .second, .val (.ref r2), .val (.ref b3), .val (.int z5)] [])) (by intro t k; exact XS.istore X4.here hx rfl (hb hby at_82) rfl (l' := #[.val (.int p0), .val (.int p1), .val (.int p2), .val (.int w3), .val (.int w4), .val (.double z1), .second, .val (.ref r2), .val (.ref b3), .val (.int z5)]) rfl k) ?_
      refine go (T' := T4) (f' := (mkF m 86 #[.val (.int p0), .val (.int p1), .val (.int p2), .val (.int w3), .val (.int w4), .val (.double z1), .second, .val (.ref r2), .val (.ref b3), .val (.int z5)] [(.ref b3)])) (by intro t k; exact XS.aload X4.here hx rfl (hb hby at_84) rfl rfl k) ?_
      obtain ⟨cq6, kq6, q6a, q6b, q6c⟩ := isOf hZ rfl E4_b3
      obtain ⟨_, _, ⟨T6, Lz6, kz6, nz6⟩, -, X6, ⟨Lc6, hQ6, lz6, yz6, zz6⟩, st6⟩ := X4.virtualBack hx (y := (⟨"com/example/petrel/petrel/model/Property$Threshold", "isQualitative", "()Z"⟩ : MethodName)) (z := (⟨"com/example/petrel/petrel/model/Property$Threshold", "isQualitative", "()Z"⟩ : MethodName)) hown (mvT hZ (hw _ (List.mem_of_getElem? (i := 26) rfl))) (mvT hZ (hw _ (List.mem_of_getElem? (i := 27) rfl))) (notFace_of_selects (args := #[]) (mvT hZ (hw _ (List.mem_of_getElem? (i := 29) rfl)))) (mvT hZ (hw _ (List.mem_of_getElem? (i := 29) rfl))) (mvT hZ (hw _ (List.mem_of_getElem? (i := 28) rfl))) (by decide) (backOf (W := 0) (rm5 l Z aw hw [] b3 z1 (if w4 = (0 : Int32) then (1 : Int32) else (if w4 = w3 then (1 : Int32) else (0 : Int32))) T4.heap n0 Z4 Fb4 hB3.2.2) hZ (hw _ (List.mem_of_getElem? (i := 30) rfl)) (hw _ (List.mem_of_getElem? (i := 10) rfl)) (by decide) (by decide)) q6a q6c (g := (mkF m 86 #[.val (.int p0), .val (.int p1), .val (.int p2), .val (.int w3), .val (.int w4), .val (.double z1), .second, .val (.ref r2), .val (.ref b3), .val (.int z5)] [(.ref b3)])) rfl (by rw [hml]; rfl) (Steps.refl _) (argsL := []) (rest := []) (lenOf pd_2829Z rfl) rfl (by show 2 * 0 + _ ≤ _; exact Nat.le_of_eq rfl) (hb hby at_86) (fun _ _ => ⟨rfl, rfl, (by decide : 1 + 0 ≤ _), (by decide : 2 + 0 ≤ _)⟩)
      dsimp only [Pt.U, Pt.locs, Pt.cells, Pt.slots] at X6 lz6 yz6 zz6 st6 hQ6
      subst lz6 yz6 zz6
      obtain ⟨rfl, N6q, e6⟩ := hQ6
      have N6 := Fr.app N4 N6q
      refine go (fun _ k => st6.trans k) ?_
      show Run _ _ _ _ _ _ _ T6 (mkF m 89 #[.val (.int p0), .val (.int p1), .val (.int p2), .val (.int w3), .val (.int w4), .val (.double z1), .second, .val (.ref r2), .val (.ref b3), .val (.int z5)] [(.int (if w4 = (0 : Int32) then (1 : Int32) else (if w4 = w3 then (1 : Int32) else (0 : Int32))))])
      refine go (T' := T6) (f' := (mkF m 91 #[.val (.int p0), .val (.int p1), .val (.int p2), .val (.int w3), .val (.int w4), .val (.double z1), .second, .val (.ref r2), .val (.ref b3), .val (.int z5)] [(.int z5), (.int (if w4 = (0 : Int32) then (1 : Int32) else (if w4 = w3 then (1 : Int32) else (0 : Int32))))])) (by intro t k; exact XS.iload X6.here hx rfl (hb hby at_89) rfl k) ?_
      refine go (T' := T6) (f' := (mkF m 94 #[.val (.int p0), .val (.int p1), .val (.int p2), .val (.int w3), .val (.int w4), .val (.double z1), .second, .val (.ref r2), .val (.ref b3), .val (.int z5)] [])) (by intro t k; exact XS.icmpNo X6.here hx rfl (hb hby at_91) rfl (teq (hz5.symm : (if w4 = (0 : Int32) then (1 : Int32) else (if w4 = w3 then (1 : Int32) else (0 : Int32))) = z5)).2 k) ?_
      refine go (T' := T6) (f' := (mkF m 95 #[.val (.int p0), .val (.int p1), .val (.int p2), .val (.int w3), .val (.int w4), .val (.double z1), .second, .val (.ref r2), .val (.ref b3), .val (.int z5)] [(.int (1 : Int32))])) (by intro t k; exact XS.iconst X6.here hx rfl (hb hby at_94) k) ?_
      refine go (T' := T6) (f' := (mkF m 99 #[.val (.int p0), .val (.int p1), .val (.int p2), .val (.int w3), .val (.int w4), .val (.double z1), .second, .val (.ref r2), .val (.ref b3), .val (.int z5)] [(.int (1 : Int32))])) (by intro t k; exact XS.goto X6.here hx rfl (pc0 := 95) (pc' := 99) rfl (hb hby at_95) (by decide) (by decide) k) ?_
      refine retZ X6 hx (t := .boolean) Bd.returns (by simp) (hb hby at_99) hlk (by decide) (by decide) ?_
      show Q0 Z p0 p1 p2 c0 c1 c2 c3 h0 n0 _ T6.heap _
      rw [e6]
      have hv' : (nar .boolean (1 : Int32)) = (1 : Int32) := by
        rfl
      have hv : (some (.int (nar .boolean (1 : Int32))) : Option Value) = some (.int (1 : Int32)) := congrArg (fun z => (some (.int z) : Option Value)) hv'
      exact ⟨hv, N6⟩
    show Run _ _ _ _ _ _ _ T4 (mkF m 68 #[.val (.int p0), .val (.int p1), .val (.int p2), .val (.int w3), .val (.int w4), .val (.double z1), .second, .val (.ref r2), .val (.ref b3), .unset] [(.int w4)])
    by_cases hc68 : w4 = (0 : Int32)
    · refine go (T' := T4) (f' := (mkF m 77 #[.val (.int p0), .val (.int p1), .val (.int p2), .val (.int w3), .val (.int w4), .val (.double z1), .second, .val (.ref r2), .val (.ref b3), .unset] [])) (by intro t k; exact XS.ifYes X4.here hx rfl (pc0 := 68) (pc' := 77) rfl (hb hby at_68) rfl ((if0 _ _).trans (teq hc68).1) (by decide) (by decide) k) ?_
      refine go (T' := T4) (f' := (mkF m 78 #[.val (.int p0), .val (.int p1), .val (.int p2), .val (.int w3), .val (.int w4), .val (.double z1), .second, .val (.ref r2), .val (.ref b3), .unset] [(.int (1 : Int32))])) (by intro t k; exact XS.iconst X4.here hx rfl (hb hby at_77) k) ?_
      refine go (T' := T4) (f' := (mkF m 82 #[.val (.int p0), .val (.int p1), .val (.int p2), .val (.int w3), .val (.int w4), .val (.double z1), .second, .val (.ref r2), .val (.ref b3), .unset] [(.int (1 : Int32))])) (by intro t k; exact XS.goto X4.here hx rfl (pc0 := 78) (pc' := 82) rfl (hb hby at_78) (by decide) (by decide) k) ?_
      have ez5 : z5 = (1 : Int32) := (hz5).trans (if_pos hc68)
      subst ez5
      exact J68
    · refine go (T' := T4) (f' := (mkF m 71 #[.val (.int p0), .val (.int p1), .val (.int p2), .val (.int w3), .val (.int w4), .val (.double z1), .second, .val (.ref r2), .val (.ref b3), .unset] [])) (by intro t k; exact XS.ifNo X4.here hx rfl (hb hby at_68) rfl ((if0 _ _).trans (feq hc68).1) k) ?_
      refine go (T' := T4) (f' := (mkF m 73 #[.val (.int p0), .val (.int p1), .val (.int p2), .val (.int w3), .val (.int w4), .val (.double z1), .second, .val (.ref r2), .val (.ref b3), .unset] [(.int w4)])) (by intro t k; exact XS.iload X4.here hx rfl (hb hby at_71) rfl k) ?_
      refine go (T' := T4) (f' := (mkF m 74 #[.val (.int p0), .val (.int p1), .val (.int p2), .val (.int w3), .val (.int w4), .val (.double z1), .second, .val (.ref r2), .val (.ref b3), .unset] [(.int w3), (.int w4)])) (by intro t k; exact XS.iloadN X4.here hx rfl (hb hby at_73) rfl k) ?_
      by_cases hc74 : w4 = w3
      · refine go (T' := T4) (f' := (mkF m 77 #[.val (.int p0), .val (.int p1), .val (.int p2), .val (.int w3), .val (.int w4), .val (.double z1), .second, .val (.ref r2), .val (.ref b3), .unset] [])) (by intro t k; exact XS.icmpNo X4.here hx rfl (hb hby at_74) rfl (teq hc74).2 k) ?_
        refine go (T' := T4) (f' := (mkF m 78 #[.val (.int p0), .val (.int p1), .val (.int p2), .val (.int w3), .val (.int w4), .val (.double z1), .second, .val (.ref r2), .val (.ref b3), .unset] [(.int (1 : Int32))])) (by intro t k; exact XS.iconst X4.here hx rfl (hb hby at_77) k) ?_
        refine go (T' := T4) (f' := (mkF m 82 #[.val (.int p0), .val (.int p1), .val (.int p2), .val (.int w3), .val (.int w4), .val (.double z1), .second, .val (.ref r2), .val (.ref b3), .unset] [(.int (1 : Int32))])) (by intro t k; exact XS.goto X4.here hx rfl (pc0 := 78) (pc' := 82) rfl (hb hby at_78) (by decide) (by decide) k) ?_
        have ez5 : z5 = (1 : Int32) := ((hz5).trans (if_neg hc68)).trans (if_pos hc74)
        subst ez5
        exact J68
      · refine go (T' := T4) (f' := (mkF m 81 #[.val (.int p0), .val (.int p1), .val (.int p2), .val (.int w3), .val (.int w4), .val (.double z1), .second, .val (.ref r2), .val (.ref b3), .unset] [])) (by intro t k; exact XS.icmpYes X4.here hx rfl (pc0 := 74) (pc' := 81) rfl (hb hby at_74) rfl (feq hc74).2 (by decide) (by decide) k) ?_
        refine go (T' := T4) (f' := (mkF m 82 #[.val (.int p0), .val (.int p1), .val (.int p2), .val (.int w3), .val (.int w4), .val (.double z1), .second, .val (.ref r2), .val (.ref b3), .unset] [(.int (0 : Int32))])) (by intro t k; exact XS.iconst X4.here hx rfl (hb hby at_81) k) ?_
        have ez5 : z5 = (0 : Int32) := ((hz5).trans (if_neg hc68)).trans (if_neg hc74)
        subst ez5
        exact J68
  show Run _ _ _ _ _ _ _ s₁ (mkF m 31 #[.val (.int p0), .val (.int p1), .val (.int p2), .val (.int w3), .val (.int w4), .val (.double u5), .second, .unset, .unset, .unset] [(.int w4)])
  by_cases hc31 : w4 = (0 : Int32)
  · refine go (T' := s₁) (f' := (mkF m 34 #[.val (.int p0), .val (.int p1), .val (.int p2), .val (.int w3), .val (.int w4), .val (.double u5), .second, .unset, .unset, .unset] [])) (by intro t k; exact XS.ifNo X0.here hx rfl (hb hby at_31) rfl ((if0 _ _).trans (teq hc31).2) k) ?_
    refine go (T' := s₁) (f' := (mkF m 35 #[.val (.int p0), .val (.int p1), .val (.int p2), .val (.int w3), .val (.int w4), .val (.double u5), .second, .unset, .unset, .unset] [(.int p2)])) (by intro t k; exact XS.iloadN X0.here hx rfl (hb hby at_34) rfl k) ?_
    refine go (T' := s₁) (f' := (mkF m 36 #[.val (.int p0), .val (.int p1), .val (.int p2), .val (.int w3), .val (.int w4), .val (.double u5), .second, .unset, .unset, .unset] [(.int (4 : Int32)), (.int p2)])) (by intro t k; exact XS.iconst X0.here hx rfl (hb hby at_35) k) ?_
    refine go (T' := s₁) (f' := (mkF m 37 #[.val (.int p0), .val (.int p1), .val (.int p2), .val (.int w3), .val (.int w4), .val (.double u5), .second, .unset, .unset, .unset] [(.int (p2 &&& (4 : Int32)))])) (by intro t k; exact XS.iand X0.here hx rfl (hb hby at_36) rfl k) ?_
    by_cases hc37 : (p2 &&& (4 : Int32)) = (0 : Int32)
    · refine go (T' := s₁) (f' := (mkF m 45 #[.val (.int p0), .val (.int p1), .val (.int p2), .val (.int w3), .val (.int w4), .val (.double u5), .second, .unset, .unset, .unset] [])) (by intro t k; exact XS.ifYes X0.here hx rfl (pc0 := 37) (pc' := 45) rfl (hb hby at_37) rfl ((if0 _ _).trans (teq hc37).1) (by decide) (by decide) k) ?_
      have ez1 : z1 = u5 := ((hz1).trans (if_pos hc31)).trans (if_pos hc37)
      subst ez1
      exact J31
    · refine go (T' := s₁) (f' := (mkF m 40 #[.val (.int p0), .val (.int p1), .val (.int p2), .val (.int w3), .val (.int w4), .val (.double u5), .second, .unset, .unset, .unset] [])) (by intro t k; exact XS.ifNo X0.here hx rfl (hb hby at_37) rfl ((if0 _ _).trans (feq hc37).1) k) ?_
      refine go (T' := s₁) (f' := (mkF m 42 #[.val (.int p0), .val (.int p1), .val (.int p2), .val (.int w3), .val (.int w4), .val (.double u5), .second, .unset, .unset, .unset] [(.double u5)])) (by intro t k; exact XS.dload X0.here hx rfl (hb hby at_40) rfl k) ?_
      refine go (T' := s₁) (f' := (mkF m 43 #[.val (.int p0), .val (.int p1), .val (.int p2), .val (.int w3), .val (.int w4), .val (.double u5), .second, .unset, .unset, .unset] [(.double (FP.dneg u5))])) (by intro t k; exact XS.dnegS X0.here hx rfl (hb hby at_42) rfl rfl k) ?_
      refine go (T' := s₁) (f' := (mkF m 45 #[.val (.int p0), .val (.int p1), .val (.int p2), .val (.int w3), .val (.int w4), .val (.double (FP.dneg u5)), .second, .unset, .unset, .unset] [])) (by intro t k; exact XS.dstore X0.here hx rfl (hb hby at_43) rfl (l' := #[.val (.int p0), .val (.int p1), .val (.int p2), .val (.int w3), .val (.int w4), .val (.double (FP.dneg u5)), .second, .unset, .unset, .unset]) rfl k) ?_
      have ez1 : z1 = (FP.dneg u5) := ((hz1).trans (if_pos hc31)).trans (if_neg hc37)
      subst ez1
      exact J31
  · refine go (T' := s₁) (f' := (mkF m 45 #[.val (.int p0), .val (.int p1), .val (.int p2), .val (.int w3), .val (.int w4), .val (.double u5), .second, .unset, .unset, .unset] [])) (by intro t k; exact XS.ifYes X0.here hx rfl (pc0 := 31) (pc' := 45) rfl (hb hby at_31) rfl ((if0 _ _).trans (feq hc31).2) (by decide) (by decide) k) ?_
    have ez1 : z1 = u5 := (hz1).trans (if_neg hc31)
    subst ez1
    exact J31
set_option maxRecDepth 65536 in
set_option maxHeartbeats 40000000 in
theorem comes_1 {Post : Tables → Env → Array Value → State → Outcome → State → Prop} (hpost : ∀ tb e args s v u, (limb_1_1.after args s (.returned v) u = true ∧ limb_1_2.after args s (.returned v) u = true ∧ True) → FrameEnd s (.returned v) u (Jvm.fieldLocs frame_1_writes args s ++ Jvm.arrayLocs frame_1_arrays args s ++ Jvm.staticLocs frame_1_statics s) 16 128 → Post tb e args s (.returned v) u) :
    ArmFor flags0 classFile x code maxLocals ret World_1 tables_1 room_1 Calls_1 rest_1 Pre_1 Post := by
  intro l hfl _ _ p e ha hc hk s m args below hf hA hF happ hP
  obtain ⟨hcalls, hrest, hpre⟩ := hP
  obtain ⟨-, -, -, hnamed, -, -, -, hat⟩ := (Spec.applies_iff hf).mp happ
  obtain ⟨hg, hn⟩ := and_e (Cond.before_iff.mp (show (Jvm.Cond.and given_1 narrow_1).before args s = true from hpre))
  obtain ⟨g1, g2⟩ := and_e hg
  obtain ⟨g3, g4⟩ := and_e g2
  obtain ⟨g5, g6⟩ := and_e g4
  obtain ⟨w0, w1, w2, rfl⟩ : ∃ w0 w1 w2 : Value, args = #[w0, w1, w2] := by
    have hs : args.size = 3 := by simpa [Cond.value, given_1] using g1
    obtain ⟨L⟩ := args
    match L, hs with
    | [w0, w1, w2], _ => exact ⟨w0, w1, w2, rfl⟩
  have hw := fun d (hd : d ∈ tables_1) => atoms_spec (ws := Jvm.Cond.code x code maxLocals ret :: tables_1) hat d (List.mem_cons_of_mem _ hd)
  have hfit : Fit s := fun {y c} hc i hi => by
    obtain ⟨ha, rfl⟩ := Array.getElem?_eq_some_iff.mp hc
    have q := List.all_eq_true.mp ((Array.all_eq_true_iff_forall_mem.mp hF) _ (Array.getElem_mem ha)) i (List.mem_range.mpr hi)
    simpa [Array.getElem?_eq_getElem hi] using q
  obtain ⟨i0, ei0⟩ := is_v g3
  obtain rfl : w0 = (.int i0) := Option.some.inj ei0
  obtain ⟨i1, ei1⟩ := is_v g5
  obtain rfl : w1 = (.int i1) := Option.some.inj ei1
  obtain ⟨i2, ei2⟩ := is_v g6
  obtain rfl : w2 = (.int i2) := Option.some.inj ei2
  obtain ⟨n0, m0⟩ := and_e hn
  obtain ⟨n1, m1⟩ := and_e m0
  obtain ⟨n2, m2⟩ := and_e m1
  have n3 := m2
  obtain ⟨c0, ev0⟩ := exa_v n0
  have E_0 := Exa.start ev0 n0
  have S_0 := Sta.start ev0 (Or.inr ⟨(hw _ (List.mem_of_getElem? (i := 6) rfl)), (hw _ (List.mem_of_getElem? (i := 7) rfl))⟩)
  obtain ⟨c1, ev1⟩ := exa_v n1
  have E_1 := Exa.start ev1 n1
  have S_1 := Sta.start ev1 (Or.inr ⟨(hw _ (List.mem_of_getElem? (i := 6) rfl)), (hw _ (List.mem_of_getElem? (i := 32) rfl))⟩)
  obtain ⟨c2, ev2⟩ := exa_v n2
  have E_2 := Exa.start ev2 n2
  have S_2 := Sta.start ev2 (Or.inr ⟨(hw _ (List.mem_of_getElem? (i := 6) rfl)), (hw _ (List.mem_of_getElem? (i := 34) rfl))⟩)
  obtain ⟨c3, ev3⟩ := exa_v n3
  have E_3 := Exa.start ev3 n3
  have S_3 := Sta.start ev3 (Or.inr ⟨(hw _ (List.mem_of_getElem? (i := 6) rfl)), (hw _ (List.mem_of_getElem? (i := 36) rfl))⟩)
  obtain ⟨n, o, h1, h2, h3, _, L, rfl, ⟨rfl, N⟩, hq⟩ := rm0 l s _ hw tables_1 i0 i1 i2 c0 c1 c2 c3 s.heap s.heap.size (Nat.le_refl _) (Old.start s) S_0 E_0 S_1 E_1 S_2 E_2 S_3 E_3 p e ha hc hk s m _ below hf ((Spec.applies_iff_loose hf).mp happ).1 ⟨rfl, State.Warmed39.refl s, rfl⟩ trivial
  refine ⟨n, _, h1, h2, h3, hpost _ _ _ _ _ _ ⟨Cond.after_iff.mpr rfl, Cond.after_iff.mpr (eq_i res_at (Term.int_eval (1)) rfl), trivial⟩ ⟨hq.1, hq.2.1, (hq.2.2.sift fun y hy => Or.inr (N y hy)).mono (by decide) (by decide)⟩⟩
theorem main_1_1 : Claimed_1_1 := comes_1 fun _ _ _ _ _ _ h hF => ⟨h.1, hF⟩
theorem main_1_2 : Claimed_1_2 := comes_1 fun _ _ _ _ _ _ h hF => ⟨h.2.1, hF⟩
end Jvm.Pilot.@@N@@
namespace Jvm.Pilot.@@N@@
open Jvm Jvm.ClassFile Sem Op Lib Jvm.Free Jvm.Stand Jvm.Pilot.@@N@@.Jvm.D
/-! MADE BY PROGRAM (witnessworld.py) out of the Statement's table words and the real class files: 14 classes; the members and pool entries that the words name. The judged class is class 1, her method 1. -/
namespace start1
open Jvm.ClassFile
def u (s : String) : CpInfo := .utf8 (stringToUtf16 s)
/-- a pool by its gaps: so many unusable entries, then the entry; so many at the end -/
def gap : Nat → List CpInfo → List CpInfo
  | 0, r => r
  | n + 1, r => .unusable :: gap n r
def poolList (es : List (Nat × CpInfo)) (last : Nat) : List CpInfo := es.foldr (fun e r => gap e.1 (e.2 :: r)) (gap last [])
def pool (es : List (Nat × CpInfo)) (last : Nat) : Array CpInfo := ⟨poolList es last⟩
def fileOf (pool : Array CpInfo) (this : Nat) (attrs : Array Attribute := #[]) (ms : Array MethodInfo := #[]) (fl : Nat := 33) (sup : Nat := 0) (ifs : Array Nat := #[]) (fds : Array FieldInfo := #[]) : ClassFile where
  minorVersion := 0
  majorVersion := 65
  constantPool := pool
  accessFlags := fl
  thisClass := this
  superClass := sup
  interfaces := ifs
  fields := fds
  methods := ms
  attributes := attrs
def plain (name : String) (sup : Option ClassId) : Class where
  name := name
  kind := .ordinary
  loader := none
  accessFlags := 33
  super := sup
  interfaces := #[]
  cf := none
  fields := #[]
  methods := #[]
  instanceTypes := #[]
  staticTypes := #[]
  resolved := #[]
  callSites := []
  init := .initialized
  statics := none
  mirror := none

def pool0 : Array CpInfo := pool [(5, u "<init>"), (0, u "()V"), (1, .class_ 10), (1, u "java/lang/Object")] 113

def k0c0 : Code := { maxStack := 0, maxLocals := 1, code := object_method_1_code, exceptionTable := #[], attributes := #[] }
def k0m0 : Method := { name := "<init>", desc := "()V", sig := { parameters := [], returnType := none }, accessFlags := 1, code := some k0c0 }
/-- java/lang/Object -/
def k0 : Class := { plain "java/lang/Object" none with
  accessFlags := 33
  interfaces := #[]
  cf := some (fileOf pool0 8 #[] #[{ accessFlags := 1, nameIndex := 5, descriptorIndex := 6, attributes := #[] }] 33 0 #[] #[])
  fields := #[]
  methods := #[k0m0]
  instanceTypes := #[]
  staticTypes := #[]
  resolved := Array.replicate 124 none
  statics := none }

def pool1 : Array CpInfo := pool [(2, .class_ 4), (1, u "java/lang/Object"), (0, u "<init>"), (0, u "()V"), (0, .integer 2147483647), (0, .methodref 9 10), (0, .class_ 11), (0, .nameAndType 12 13), (0, u "com/example/petrel/petrel/model/ThresholdIsQualitativePinLaw"), (0, u "comparison"), (0, u "(I)Lcom/example/petrel/petrel/model/Property$Comparison;"), (0, .class_ 15), (0, u "com/example/petrel/petrel/model/Property$Threshold"), (0, .methodref 14 17), (0, .nameAndType 5 18), (0, u "(Lcom/example/petrel/petrel/model/Property$Comparison;D)V"), (0, .methodref 14 20), (0, .nameAndType 21 22), (0, u "isQualitative"), (0, u "()Z"), (0, .fieldref 24 25), (0, .class_ 26), (0, .nameAndType 27 28), (0, u "com/example/petrel/petrel/model/Property$Comparison"), (0, u "AT_LEAST"), (0, u "Lcom/example/petrel/petrel/model/Property$Comparison;"), (0, .fieldref 24 30), (0, .nameAndType 31 28), (0, u "ABOVE"), (0, .fieldref 24 33), (0, .nameAndType 34 28), (0, u "AT_MOST"), (0, .fieldref 24 36), (0, .nameAndType 37 28), (0, u "BELOW"), (2, u "law"), (0, u "(III)Z")] 8

def k1m0 : Method := { name := "<init>", desc := "()V", sig := { parameters := [], returnType := none }, accessFlags := 1, code := none }
def k1c1 : Code := { maxStack := 5, maxLocals := 10, code := code, exceptionTable := #[], attributes := #[] }
def k1m1 : Method := { name := "law", desc := "(III)Z", sig := { parameters := [.int, .int, .int], returnType := some .boolean }, accessFlags := 9, code := some k1c1 }
def k1c2 : Code := { maxStack := 2, maxLocals := 2, code := method_3_code, exceptionTable := #[], attributes := #[] }
def k1m2 : Method := { name := "comparison", desc := "(I)Lcom/example/petrel/petrel/model/Property$Comparison;", sig := { parameters := [.int], returnType := some (.object "com/example/petrel/petrel/model/Property$Comparison") }, accessFlags := 10, code := some k1c2 }
/-- com/example/petrel/petrel/model/ThresholdIsQualitativePinLaw -/
def k1 : Class := { plain "com/example/petrel/petrel/model/ThresholdIsQualitativePinLaw" (some 0) with
  accessFlags := 49
  interfaces := #[]
  cf := some (fileOf pool1 9 #[] #[{ accessFlags := 1, nameIndex := 5, descriptorIndex := 6, attributes := #[] }, { accessFlags := 9, nameIndex := 40, descriptorIndex := 41, attributes := #[] }, { accessFlags := 10, nameIndex := 12, descriptorIndex := 13, attributes := #[] }] 49 2 #[] #[])
  fields := #[]
  methods := #[k1m0, k1m1, k1m2]
  instanceTypes := #[]
  staticTypes := #[]
  resolved := Array.replicate 50 none
  statics := none }

def pool2 : Array CpInfo := pool [(1, .class_ 2), (0, u "java/lang/constant/Constable"), (0, .class_ 4), (0, u "java/lang/Object")] 6

/-- java/lang/constant/Constable -/
def k2 : Class := { plain "java/lang/constant/Constable" (some 0) with
  accessFlags := 1537
  interfaces := #[]
  cf := some (fileOf pool2 1 #[] #[] 1537 3 #[] #[])
  fields := #[]
  methods := #[]
  instanceTypes := #[]
  staticTypes := #[]
  resolved := Array.replicate 11 none
  statics := none }

def pool3 : Array CpInfo := pool [(1, .class_ 2), (0, u "java/lang/Comparable"), (0, .class_ 4), (0, u "java/lang/Object")] 7

/-- java/lang/Comparable -/
def k3 : Class := { plain "java/lang/Comparable" (some 0) with
  accessFlags := 1537
  interfaces := #[]
  cf := some (fileOf pool3 1 #[] #[] 1537 3 #[] #[])
  fields := #[]
  methods := #[]
  instanceTypes := #[]
  staticTypes := #[]
  resolved := Array.replicate 12 none
  statics := none }

def pool4 : Array CpInfo := pool [(1, .class_ 2), (0, u "java/io/Serializable"), (0, .class_ 4), (0, u "java/lang/Object")] 2

/-- java/io/Serializable -/
def k4 : Class := { plain "java/io/Serializable" (some 0) with
  accessFlags := 1537
  interfaces := #[]
  cf := some (fileOf pool4 1 #[] #[] 1537 3 #[] #[])
  fields := #[]
  methods := #[]
  instanceTypes := #[]
  staticTypes := #[]
  resolved := Array.replicate 7 none
  statics := none }

def pool5 : Array CpInfo := pool [(2, .class_ 4), (1, u "java/lang/Enum"), (0, u "name"), (0, u "Ljava/lang/String;"), (2, u "ordinal"), (0, u "I"), (1, .class_ 14), (1, u "java/lang/Object"), (4, u "hash"), (86, .class_ 108), (1, u "java/lang/Enum$EnumDesc"), (2, .class_ 112), (0, u "java/lang/constant/Constable"), (0, .class_ 114), (0, u "java/lang/Comparable"), (0, .class_ 116), (0, u "java/io/Serializable")] 87

/-- java/lang/Enum -/
def k5 : Class := { plain "java/lang/Enum" (some 0) with
  accessFlags := 1057
  interfaces := #[2, 3, 4]
  cf := some (fileOf pool5 2 #[.nestMembers #[106]] #[] 1057 12 #[111, 113, 115] #[{ accessFlags := 18, nameIndex := 5, descriptorIndex := 6, attributes := #[] }, { accessFlags := 18, nameIndex := 9, descriptorIndex := 10, attributes := #[] }, { accessFlags := 2, nameIndex := 19, descriptorIndex := 10, attributes := #[] }])
  fields := #[{ name := "name", type := (.object "java/lang/String"), accessFlags := 18, slot := 0, constantValue := 0 }, { name := "ordinal", type := .int, accessFlags := 18, slot := 1, constantValue := 0 }, { name := "hash", type := .int, accessFlags := 2, slot := 2, constantValue := 0 }]
  methods := #[]
  instanceTypes := #[(.object "java/lang/String"), .int, .int]
  staticTypes := #[]
  resolved := Array.replicate 204 none
  statics := none }

def pool6 : Array CpInfo := pool [(1, .class_ 2), (0, u "com/example/petrel/petrel/model/Property$Comparison"), (2, u "AT_LEAST"), (0, u "Lcom/example/petrel/petrel/model/Property$Comparison;"), (2, u "ABOVE"), (2, u "AT_MOST"), (2, u "BELOW"), (2, u "$VALUES"), (0, u "[Lcom/example/petrel/petrel/model/Property$Comparison;"), (6, .class_ 28), (1, u "java/lang/Enum"), (8, u "symbol"), (0, u "Ljava/lang/String;"), (44, .class_ 84), (0, u "com/example/petrel/petrel/model/Property")] 2

/-- com/example/petrel/petrel/model/Property$Comparison -/
def k6 : Class := { plain "com/example/petrel/petrel/model/Property$Comparison" (some 5) with
  accessFlags := 16433
  interfaces := #[]
  cf := some (fileOf pool6 1 #[.nestHost 83] #[] 16433 26 #[] #[{ accessFlags := 16409, nameIndex := 5, descriptorIndex := 6, attributes := #[] }, { accessFlags := 16409, nameIndex := 9, descriptorIndex := 6, attributes := #[] }, { accessFlags := 16409, nameIndex := 12, descriptorIndex := 6, attributes := #[] }, { accessFlags := 16409, nameIndex := 15, descriptorIndex := 6, attributes := #[] }, { accessFlags := 18, nameIndex := 37, descriptorIndex := 38, attributes := #[] }, { accessFlags := 4122, nameIndex := 18, descriptorIndex := 19, attributes := #[] }])
  fields := #[{ name := "AT_LEAST", type := (.object "com/example/petrel/petrel/model/Property$Comparison"), accessFlags := 16409, slot := 0, constantValue := 0 }, { name := "ABOVE", type := (.object "com/example/petrel/petrel/model/Property$Comparison"), accessFlags := 16409, slot := 1, constantValue := 0 }, { name := "AT_MOST", type := (.object "com/example/petrel/petrel/model/Property$Comparison"), accessFlags := 16409, slot := 2, constantValue := 0 }, { name := "BELOW", type := (.object "com/example/petrel/petrel/model/Property$Comparison"), accessFlags := 16409, slot := 3, constantValue := 0 }, { name := "symbol", type := (.object "java/lang/String"), accessFlags := 18, slot := 3, constantValue := 0 }, { name := "$VALUES", type := (.array (.object "com/example/petrel/petrel/model/Property$Comparison")), accessFlags := 4122, slot := 4, constantValue := 0 }]
  methods := #[]
  instanceTypes := #[(.object "java/lang/String"), .int, .int, (.object "java/lang/String")]
  staticTypes := #[(.object "com/example/petrel/petrel/model/Property$Comparison"), (.object "com/example/petrel/petrel/model/Property$Comparison"), (.object "com/example/petrel/petrel/model/Property$Comparison"), (.object "com/example/petrel/petrel/model/Property$Comparison"), (.array (.object "com/example/petrel/petrel/model/Property$Comparison"))]
  resolved := Array.replicate 87 none
  statics := some 0 }

def pool7 : Array CpInfo := pool [(1, .methodref 2 3), (0, .class_ 4), (0, .nameAndType 5 6), (0, u "java/lang/Object"), (0, u "<init>"), (0, u "()V"), (0, .class_ 8), (0, u "java/lang/Record")] 13

def k7c0 : Code := { maxStack := 1, maxLocals := 1, code := jdk_30_method_1_code, exceptionTable := #[], attributes := #[] }
def k7m0 : Method := { name := "<init>", desc := "()V", sig := { parameters := [], returnType := none }, accessFlags := 4, code := some k7c0 }
/-- java/lang/Record -/
def k7 : Class := { plain "java/lang/Record" (some 0) with
  accessFlags := 1057
  interfaces := #[]
  cf := some (fileOf pool7 7 #[] #[{ accessFlags := 4, nameIndex := 5, descriptorIndex := 6, attributes := #[] }] 1057 2 #[] #[])
  fields := #[]
  methods := #[k7m0]
  instanceTypes := #[]
  staticTypes := #[]
  resolved := Array.replicate 22 none
  statics := none }

def pool8 : Array CpInfo := pool [(1, .methodref 2 3), (0, .class_ 4), (0, .nameAndType 5 6), (0, u "java/lang/Record"), (0, u "<init>"), (0, u "()V"), (15, .fieldref 23 24), (0, .class_ 25), (0, .nameAndType 26 27), (0, u "com/example/petrel/petrel/model/Property$Threshold"), (0, u "comparison"), (0, u "Lcom/example/petrel/petrel/model/Property$Comparison;"), (0, .fieldref 23 29), (0, .nameAndType 30 31), (0, u "bound"), (0, u "D"), (12, u "(Lcom/example/petrel/petrel/model/Property$Comparison;D)V"), (6, u "isQualitative"), (0, u "()Z"), (8, .class_ 62), (0, u "com/example/petrel/petrel/model/Property")] 29

def k8c0 : Code := { maxStack := 5, maxLocals := 4, code := prog_90_method_1_code, exceptionTable := #[], attributes := #[] }
def k8m0 : Method := { name := "<init>", desc := "(Lcom/example/petrel/petrel/model/Property$Comparison;D)V", sig := { parameters := [(.object "com/example/petrel/petrel/model/Property$Comparison"), .double], returnType := none }, accessFlags := 1, code := some k8c0 }
def k8c1 : Code := { maxStack := 4, maxLocals := 1, code := prog_90_method_2_code, exceptionTable := #[], attributes := #[] }
def k8m1 : Method := { name := "isQualitative", desc := "()Z", sig := { parameters := [], returnType := some .boolean }, accessFlags := 1, code := some k8c1 }
/-- com/example/petrel/petrel/model/Property$Threshold -/
def k8 : Class := { plain "com/example/petrel/petrel/model/Property$Threshold" (some 7) with
  accessFlags := 49
  interfaces := #[]
  cf := some (fileOf pool8 23 #[.nestHost 61] #[{ accessFlags := 1, nameIndex := 5, descriptorIndex := 44, attributes := #[] }, { accessFlags := 1, nameIndex := 51, descriptorIndex := 52, attributes := #[] }] 49 2 #[] #[{ accessFlags := 18, nameIndex := 26, descriptorIndex := 27, attributes := #[] }, { accessFlags := 18, nameIndex := 30, descriptorIndex := 31, attributes := #[] }])
  fields := #[{ name := "comparison", type := (.object "com/example/petrel/petrel/model/Property$Comparison"), accessFlags := 18, slot := 0, constantValue := 0 }, { name := "bound", type := .double, accessFlags := 18, slot := 1, constantValue := 0 }]
  methods := #[k8m0, k8m1]
  instanceTypes := #[(.object "com/example/petrel/petrel/model/Property$Comparison"), .double]
  staticTypes := #[]
  resolved := Array.replicate 92 none
  statics := none }

def pool9 : Array CpInfo := pool [(1, u "java/lang/Cloneable"), (0, .class_ 1), (0, u "java/lang/Object"), (0, .class_ 3)] 3

/-- java/lang/Cloneable -/
def k9 : Class := { plain "java/lang/Cloneable" (some 0) with
  accessFlags := 1537
  interfaces := #[]
  cf := some (fileOf pool9 2 #[] #[] 1537 4 #[] #[])
  fields := #[]
  methods := #[]
  instanceTypes := #[]
  staticTypes := #[]
  resolved := Array.replicate 8 none
  statics := none }

/-- the primitive byte -/
def k10 : Class := { plain "byte" none with kind := .primitive 'B', accessFlags := 0x411 }
/-- [B -/
def k11 : Class := { plain "[B" (some 0) with kind := .array 10 .byte, interfaces := #[9, 4], accessFlags := 1041 }

/-- the primitive int -/
def k12 : Class := { plain "int" none with kind := .primitive 'I', accessFlags := 0x411 }
/-- [I -/
def k13 : Class := { plain "[I" (some 0) with kind := .array 12 .int, interfaces := #[9, 4], accessFlags := 1041 }

def heap : Heap := #[{ cls := 6, slots := #[.ref 1, .ref 2, .ref 3, .ref 4, .null], vm := .statics 6 },
  { cls := 6, slots := #[.null, .int 0, .int 0, .null], vm := .none },
  { cls := 6, slots := #[.null, .int 1, .int 0, .null], vm := .none },
  { cls := 6, slots := #[.null, .int 2, .int 0, .null], vm := .none },
  { cls := 6, slots := #[.null, .int 3, .int 0, .null], vm := .none }]
def classes : Array Class := #[k0, k1, k2, k3, k4, k5, k6, k7, k8, k9, k10, k11, k12, k13]
def interned : List (Array UInt16 × Addr) := []
def slotsUsed : Nat := 21
def theMethod : MethodId := ⟨1, 1⟩
def args0 : Array Value := #[.int 5, .int 3, .int 1]
def aboutOver (below : List Frame) : State where
  vm := { classes := classes, interned := interned.toArray }
  heap := heap
  slotsUsed := slotsUsed
  threads := #[{ frames := .invoking theMethod args0 :: below }]
def below0 : List Frame := [.native { method := ⟨0, 0⟩, args := #[] }]
def about1 : State := aboutOver below0
def p0 : Program := .bare "" "" ""
def e0 : Env := launch0.env 0 0 0
theorem w_frames : about1.frames = Frame.invoking theMethod args0 :: below0 := rfl
set_option maxRecDepth 65536 in
theorem w_args : argsFit about1.vm theMethod args0 = true := by decide +kernel
set_option maxRecDepth 65536 in
theorem w_heap : heapFits about1 = true := by decide +kernel
set_option maxRecDepth 65536 in
theorem w_runnable : about1.curStatus? = some .runnable := by decide +kernel
set_option maxRecDepth 65536 in
theorem w_alone : about1.alone = true := by decide +kernel
set_option maxRecDepth 65536 in
theorem w_named : about1.methodNamed? x = some theMethod := by decide +kernel
set_option maxRecDepth 65536 in
theorem w_hears : about1.hears theMethod below0 = true := by decide +kernel
set_option maxRecDepth 65536 in
theorem w_ripe : about1.ripe theMethod args0 below0 = true := by decide +kernel
theorem w_running : about1.status = .running := rfl
set_option maxRecDepth 65536 in
theorem w_room : about1.hasRoom e0.platform room_1 = true :=
  launch0.hasRoom_least _ room_1 (by decide +kernel) (by decide +kernel) (by decide +kernel) (by decide +kernel) (by decide +kernel) (by decide +kernel)
theorem allAtoms_all (ts : List Jvm.Cond) (a : Array Jvm.Value) (st : Jvm.State) : (allAtoms ts).before a st = ts.all (fun c => c.before a st) := by
  induction ts with
  | nil => rfl
  | cons c t ih =>
    show (Jvm.Cond.and c (allAtoms t)).before a st = _
    rw [Jvm.Cond.before_and, ih, List.all_cons]
def words1 : List Jvm.Cond := Jvm.Cond.code x code maxLocals ret :: tables_1
/-- a 'code' word, met by the world's own term for the bytes: nothing is compared byte by byte -/
theorem code_word {y : MethodName} {bytes : ByteArray} {mx : Nat} {rt : Option FieldType} {a : Array Value} {s : State} {m : MethodId} {meth : Method} {c : Code} (h1 : s.methodNamed? y = some m) (h2 : s.vm.method? m = some meth) (h3 : meth.code = some c) (h4 : c.code = bytes)
    (h5 : (c.maxLocals == mx && c.exceptionTable.isEmpty && decide (c.maxStack ≤ mostOperands) && decide (meth.sig.returnType = rt) && !meth.locks && decide (parseMethodDescriptor y.desc = some meth.sig)) = true) : (Jvm.Cond.code y bytes mx rt).before a s = true := by
  simp only [Bool.and_eq_true, beq_iff_eq, Bool.not_eq_true', decide_eq_true_eq] at h5
  obtain ⟨⟨⟨⟨⟨g1, g2⟩, g3⟩, g4⟩, g5⟩, g6⟩ := h5
  simp [Cond.before, Cond.holds, Cond.value, h1, h2, h3, h4, g1, g2, g3, g4, g5, g6]
def isCode : Jvm.Cond → Bool
  | .code _ _ _ _ => true
  | _ => false
theorem all_split {L : List Jvm.Cond} {P : Jvm.Cond → Bool} (h1 : L.all (fun c => isCode c || P c) = true) (h2 : ∀ c ∈ L.filter isCode, P c = true) : L.all P = true := by
  refine List.all_eq_true.mpr fun c hc => ?_
  have h := List.all_eq_true.mp h1 c hc
  rcases Bool.eq_false_or_eq_true (isCode c) with hi | hi
  · exact h2 c (List.mem_filter.mpr ⟨hc, hi⟩)
  · simpa [hi] using h
set_option maxRecDepth 65536 in
theorem w_c0 : (Jvm.Cond.code x code maxLocals ret).before args0 about1 = true := code_word (m := ⟨1, 1⟩) (meth := k1m1) (c := k1c1) (by decide +kernel) rfl rfl rfl (by decide +kernel)
set_option maxRecDepth 65536 in
theorem w_c1 : (Jvm.Cond.code ({ cls := "com/example/petrel/petrel/model/ThresholdIsQualitativePinLaw", name := "comparison", desc := "(I)Lcom/example/petrel/petrel/model/Property$Comparison;" } : Jvm.MethodName) method_3_code (2 : Nat) (Option.some (Jvm.ClassFile.FieldType.object "com/example/petrel/petrel/model/Property$Comparison"))).before args0 about1 = true := code_word (m := ⟨1, 2⟩) (meth := k1m2) (c := k1c2) (by decide +kernel) rfl rfl rfl (by decide +kernel)
set_option maxRecDepth 65536 in
theorem w_c2 : (Jvm.Cond.code ({ cls := "com/example/petrel/petrel/model/Property$Threshold", name := "<init>", desc := "(Lcom/example/petrel/petrel/model/Property$Comparison;D)V" } : Jvm.MethodName) prog_90_method_1_code (4 : Nat) (Option.none : Option Jvm.ClassFile.FieldType)).before args0 about1 = true := code_word (m := ⟨8, 0⟩) (meth := k8m0) (c := k8c0) (by decide +kernel) rfl rfl rfl (by decide +kernel)
set_option maxRecDepth 65536 in
theorem w_c3 : (Jvm.Cond.code ({ cls := "java/lang/Record", name := "<init>", desc := "()V" } : Jvm.MethodName) jdk_30_method_1_code (1 : Nat) (Option.none : Option Jvm.ClassFile.FieldType)).before args0 about1 = true := code_word (m := ⟨7, 0⟩) (meth := k7m0) (c := k7c0) (by decide +kernel) rfl rfl rfl (by decide +kernel)
set_option maxRecDepth 65536 in
theorem w_c4 : (Jvm.Cond.code ({ cls := "java/lang/Object", name := "<init>", desc := "()V" } : Jvm.MethodName) object_method_1_code (1 : Nat) (Option.none : Option Jvm.ClassFile.FieldType)).before args0 about1 = true := code_word (m := ⟨0, 0⟩) (meth := k0m0) (c := k0c0) (by decide +kernel) rfl rfl rfl (by decide +kernel)
set_option maxRecDepth 65536 in
theorem w_c5 : (Jvm.Cond.code ({ cls := "com/example/petrel/petrel/model/Property$Threshold", name := "isQualitative", desc := "()Z" } : Jvm.MethodName) prog_90_method_2_code (1 : Nat) (Option.some Jvm.ClassFile.FieldType.boolean)).before args0 about1 = true := code_word (m := ⟨8, 1⟩) (meth := k8m1) (c := k8c1) (by decide +kernel) rfl rfl rfl (by decide +kernel)
def codes1 : List Jvm.Cond := [Jvm.Cond.code x code maxLocals ret, Jvm.Cond.code ({ cls := "com/example/petrel/petrel/model/ThresholdIsQualitativePinLaw", name := "comparison", desc := "(I)Lcom/example/petrel/petrel/model/Property$Comparison;" } : Jvm.MethodName) method_3_code (2 : Nat) (Option.some (Jvm.ClassFile.FieldType.object "com/example/petrel/petrel/model/Property$Comparison")), Jvm.Cond.code ({ cls := "com/example/petrel/petrel/model/Property$Threshold", name := "<init>", desc := "(Lcom/example/petrel/petrel/model/Property$Comparison;D)V" } : Jvm.MethodName) prog_90_method_1_code (4 : Nat) (Option.none : Option Jvm.ClassFile.FieldType), Jvm.Cond.code ({ cls := "java/lang/Record", name := "<init>", desc := "()V" } : Jvm.MethodName) jdk_30_method_1_code (1 : Nat) (Option.none : Option Jvm.ClassFile.FieldType), Jvm.Cond.code ({ cls := "java/lang/Object", name := "<init>", desc := "()V" } : Jvm.MethodName) object_method_1_code (1 : Nat) (Option.none : Option Jvm.ClassFile.FieldType), Jvm.Cond.code ({ cls := "com/example/petrel/petrel/model/Property$Threshold", name := "isQualitative", desc := "()Z" } : Jvm.MethodName) prog_90_method_2_code (1 : Nat) (Option.some Jvm.ClassFile.FieldType.boolean)]
set_option maxRecDepth 65536 in
theorem codes_eq : words1.filter isCode = codes1 := rfl
theorem w_codes : ∀ c ∈ words1.filter isCode, c.before args0 about1 = true := by
  rw [codes_eq]
  intro c hc
  simp only [codes1, List.mem_cons, List.not_mem_nil, or_false] at hc
  rcases hc with rfl | rfl | rfl | rfl | rfl | rfl
  · exact w_c0
  · exact w_c1
  · exact w_c2
  · exact w_c3
  · exact w_c4
  · exact w_c5
set_option maxRecDepth 65536 in
theorem w_t1 : (words1.take 24).all (fun c => isCode c || c.before args0 about1) = true := by decide +kernel
set_option maxRecDepth 65536 in
theorem w_t2 : (words1.drop 24).all (fun c => isCode c || c.before args0 about1) = true := by decide +kernel
theorem w_tables : (allAtoms (Jvm.Cond.code x code maxLocals ret :: tables_1)).before args0 about1 = true := by
  rw [allAtoms_all]
  show words1.all (fun c => c.before args0 about1) = true
  refine all_split ?_ w_codes
  rw [← List.take_append_drop 24 words1, List.all_append, w_t1, w_t2]
  rfl
set_option maxRecDepth 65536 in
theorem w_case : (Jvm.Cond.and given_1 narrow_1).before args0 about1 = true := by decide +kernel
theorem w_applies : (headSpec (Jvm.Cond.code x code maxLocals ret :: tables_1) room_1).applies x e0.platform about1 = true :=
  (Spec.applies_iff w_frames).mpr ⟨w_running, w_runnable, w_alone, w_named, w_hears, w_ripe, w_room, w_tables⟩
theorem atStart : AtStart classFile x code maxLocals ret World_1 tables_1 room_1 Calls_1 rest_1 Pre_1 launch0 p0 e0 about1 theMethod args0 below0 :=
  ⟨lists_1, trivial, launch0.admits_env _ _ _, launch0.least_env, fairChoices_fair.cas, fairChoices_fair.clock, w_frames, w_args, w_heap, w_applies, trivial, trivial, w_case⟩
end start1
theorem witness_1 : WitnessClaimed_1 := ⟨start1.p0, start1.e0, start1.about1, start1.theMethod, start1.args0, start1.below0, start1.atStart⟩
end Jvm.Pilot.@@N@@
